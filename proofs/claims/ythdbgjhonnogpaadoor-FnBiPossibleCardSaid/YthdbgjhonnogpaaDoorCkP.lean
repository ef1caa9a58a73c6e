/- Check in plain Lean: bits of lines, jumps, steps. No program in sight. -/
import Derived.Test.YthdbgjhonnogpaaDoorCkA
import Derived.Test.YthdbgjhonnogpaaDoorAtt
import Derived.Test.YthdbgjhonnogpaaDoorSlide
import Derived.Test.YthdbgjhonnogpaaDoorReachP
import Derived.Test.YthdbgjhonnogpaaDoorEqArr
namespace Go.Proofs.YthdbgjhonnogpaaDoor
open Plain
set_option maxHeartbeats 1000000
set_option linter.unusedVariables false
set_option linter.unusedSimpArgs false

theorem orBits_bit : ∀ (L : List Nat), (∀ s ∈ L, s < 64) → ∀ t, t < 64 → occ (orBits L) t = decide (t ∈ L)
  | [], _, t, _ => by simp [orBits, occ]
  | s :: l, h, t, ht => by
    have hs := h s (by simp)
    have ih := orBits_bit l (fun x hx => h x (by simp [hx])) t ht
    unfold occ at ih ⊢
    rw [orBits, Nat.testBit_or, ih, bit, Nat.testBit_two_pow]
    by_cases e : t = s
    · subst e; simp
    · have e3 : ¬ (63 - s = 63 - t) := by omega
      simp [e3, e]
theorem mem_upTo (f : Nat → Bool) (t : Nat) : ∀ l : List Nat, t ∈ upTo f l ↔ t ∈ l ∧ ∀ x ∈ l.takeWhile (fun y => y != t), f x = false
  | [] => by simp [upTo]
  | s :: l => by
    have ih := mem_upTo f t l
    by_cases e : s = t
    · subst e; simp [upTo]
    · have e' : (s != t) = true := by simpa using e
      have e2 : ¬ t = s := fun h => e h.symm
      rw [List.takeWhile_cons, e', if_pos rfl, upTo]
      by_cases hf : f s = true
      · simp [hf, e2]
      · have hf' : f s = false := by simpa using hf
        simp [hf', e2, ih]
/-- The squares between two squares of a line. -/
def betw (s t : Nat) : List Nat := (List.range (farD s t - 1)).map fun (q : Nat) => ((s : Int) + wayD s t * ((q : Int) + 1)).toNat
theorem clr_all (g : Nat → Int) (way : Int) : ∀ (n : Nat) (p : Int), clr g way n p = true ↔ ∀ q : Nat, q < n → g (p + way * (q : Int)).toNat = 0
  | 0, p => by simp [clr]
  | n + 1, p => by
    have ih := clr_all g way n (p + way)
    have hs : ∀ q : Nat, p + way * ((q + 1 : Nat) : Int) = p + way + way * (q : Int) := fun q => by
      rw [Int.natCast_add, Int.mul_add]; simp; omega
    unfold clr
    by_cases h : g p.toNat = 0
    · rw [if_pos h, ih]
      constructor
      · intro H q hq
        cases q with
        | zero => simpa using h
        | succ q => rw [hs]; exact H q (by omega)
      · intro H q hq
        have := H (q + 1) (by omega)
        rwa [hs] at this
    · rw [if_neg h]
      constructor
      · intro H; cases H
      · intro H; exact absurd (by simpa using H 0 (by omega)) h
theorem line_iff (g : Nat → Int) (s t : Nat) : lineB g s t = true ↔ ∀ x ∈ betw s t, g x = 0 := by
  unfold lineB betw
  rw [clr_all]
  have e : ∀ q : Nat, (s : Int) + wayD s t + wayD s t * (q : Int) = (s : Int) + wayD s t * ((q : Int) + 1) := fun q => by rw [Int.mul_add, Int.mul_one]; omega
  constructor
  · intro H x hx
    obtain ⟨q, hq, rfl⟩ := List.mem_map.1 hx
    have := H q (List.mem_range.1 hq)
    rwa [e] at this
  · intro H q hq
    rw [e]
    exact H _ (List.mem_map.2 ⟨q, List.mem_range.2 hq, rfl⟩)
theorem betw_lt {s t : Nat} (hs : s < 64) (ht : t < 64) (hne : s ≠ t) (h : (strB s t || slaB s t) = true) : ∀ x ∈ betw s t, x < 64 := by
  obtain ⟨_, h1, h2, h3⟩ := line_facts hs ht hne h
  intro x hx
  obtain ⟨q, hq, rfl⟩ := List.mem_map.1 hx
  have hq := List.mem_range.1 hq
  have := h3 (q + 1) (by omega)
  have e : (s : Int) + wayD s t * ((q + 1 : Nat) : Int) = (s : Int) + wayD s t * ((q : Int) + 1) := by rw [Int.natCast_add]; simp
  rw [e] at this
  omega
def strL : List (Int × Int) := [(0, 1), (1, 0), (0, -1), (-1, 0)]
def slaL : List (Int × Int) := [(1, 1), (1, -1), (-1, -1), (-1, 1)]
def pairOk (ds : List (Int × Int)) (b : Bool) (j k : Nat) : Bool :=
  (ds.all fun d => !((ray k d.1 d.2).contains j) || (b && j != k && ((ray k d.1 d.2).takeWhile (fun y => y != j) == (betw j k).reverse))) && (!(b && j != k) || ds.any fun d => (ray k d.1 d.2).contains j)
theorem str_ok : allBelow 64 (fun k => allBelow 64 fun j => pairOk strL (strB j k) j k) = true := by decide +kernel
theorem sla_ok : allBelow 64 (fun k => allBelow 64 fun j => pairOk slaL (slaB j k) j k) = true := by decide +kernel
theorem pair_sees {ds : List (Int × Int)} {b : Bool} {j k : Nat} (h : pairOk ds b j k = true) (f : Nat → Bool) : (∃ d ∈ ds, j ∈ upTo f (ray k d.1 d.2)) ↔ (b = true ∧ j ≠ k ∧ ∀ x ∈ betw j k, f x = false) := by
  unfold pairOk at h
  rw [Bool.and_eq_true, List.all_eq_true] at h
  obtain ⟨h1, h2⟩ := h
  constructor
  · rintro ⟨d, hd, hj⟩
    obtain ⟨hm, hw⟩ := (mem_upTo f j _).1 hj
    have h3 := h1 d hd
    rw [show (ray k d.1 d.2).contains j = true by simpa using hm] at h3
    simp only [Bool.not_true, Bool.false_or, Bool.and_eq_true, bne_iff_ne, ne_eq, beq_iff_eq] at h3
    obtain ⟨⟨hb, hne⟩, he⟩ := h3
    refine ⟨hb, hne, fun x hx => hw x ?_⟩
    rw [he]; simpa using hx
  · rintro ⟨hb, hne, hx⟩
    rw [hb, show (j != k) = true by simpa using hne] at h2
    simp only [Bool.and_self, Bool.not_true, Bool.false_or, List.any_eq_true] at h2
    obtain ⟨d, hd, hm⟩ := h2
    refine ⟨d, hd, (mem_upTo f j _).2 ⟨by simpa using hm, fun x hxx => hx x ?_⟩⟩
    have h3 := h1 d hd
    rw [hm] at h3
    simp only [Bool.not_true, Bool.false_or, Bool.and_eq_true, beq_iff_eq] at h3
    rw [h3.2] at hxx
    simpa using hxx
theorem rook_mem (f : Nat → Bool) (j k : Nat) : j ∈ rookSees f k ↔ ∃ d ∈ strL, j ∈ upTo f (ray k d.1 d.2) := by
  simp [rookSees, strL, or_assoc]
theorem bishop_mem (f : Nat → Bool) (j k : Nat) : j ∈ bishopSees f k ↔ ∃ d ∈ slaL, j ∈ upTo f (ray k d.1 d.2) := by
  simp [bishopSees, slaL, or_assoc]
theorem sees_lt (f : Nat → Bool) (k : Nat) : (∀ t ∈ rookSees f k, t < 64) ∧ (∀ t ∈ bishopSees f k, t < 64) := by
  constructor
  · intro t ht
    obtain ⟨d, _, h⟩ := (rook_mem f t k).1 ht
    exact rayGo_lt _ _ _ _ _ t (upTo_sub _ _ _ h)
  · intro t ht
    obtain ⟨d, _, h⟩ := (bishop_mem f t k).1 ht
    exact rayGo_lt _ _ _ _ _ t (upTo_sub _ _ _ h)
theorem bitB_toNatP (s : Nat) : (bitB s).toNat = bit s := by
  have h2 : 2 ^ (63 - s) < 18446744073709551616 := Nat.pow_lt_pow_right (a := 2) (m := 63 - s) (n := 64) (by decide) (by omega)
  rw [bitB, BitVec.toNat_ofNat, Nat.mod_eq_of_lt h2, bit]
theorem tab_toNatP {l : List Nat} (h : l.all (fun n => decide (n < 18446744073709551616)) = true) (i : Nat) : (BitVec.ofNat 64 (l.getD i 0)).toNat = l.getD i 0 := by
  rw [BitVec.toNat_ofNat]
  apply Nat.mod_eq_of_lt
  by_cases hi : i < l.length
  · have := List.all_eq_true.1 h l[i] (List.getElem_mem hi)
    simpa [List.getD, hi] using this
  · simp [List.getD, hi]
theorem hv_bit (o : BitVec 64) (j k : Nat) (hj : j < 64) (hk : k < 64) : occ (hvOf o k).toNat j = true ↔ (strB j k = true ∧ j ≠ k ∧ ∀ x ∈ betw j k, occ o.toNat x = false) := by
  have e : (hvOf o k).toNat = hv o.toNat k := by
    rw [hvOf, hv, BitVec.toNat_or, linB_toNat, linB_toNat, bitB_toNatP, tab_toNatP (by decide), tab_toNatP (by decide)]
  rw [e, hv_is _ _ hk, orBits_bit _ (sees_lt _ _).1 _ hj, decide_eq_true_iff, rook_mem]
  exact pair_sees (allBelow_of (allBelow_of str_ok k hk) j hj) _
theorem dia_bit (o : BitVec 64) (j k : Nat) (hj : j < 64) (hk : k < 64) : occ (diaOf o k).toNat j = true ↔ (slaB j k = true ∧ j ≠ k ∧ ∀ x ∈ betw j k, occ o.toNat x = false) := by
  have e : (diaOf o k).toNat = dia o.toNat k := by
    rw [diaOf, dia, BitVec.toNat_or, linB_toNat, linB_toNat, bitB_toNatP, tab_toNatP (by decide), tab_toNatP (by decide)]
  rw [e, dia_is _ _ hk, orBits_bit _ (sees_lt _ _).2 _ hj, decide_eq_true_iff, bishop_mem]
  exact pair_sees (allBelow_of (allBelow_of sla_ok k hk) j hj) _
theorem kn_ok : allBelow 64 (fun k => allBelow 64 fun j => occ (knights.getD k 0) j == (fD j k * fD j k + rD j k * rD j k == 5)) = true := by decide +kernel
theorem kg_ok : allBelow 64 (fun k => allBelow 64 fun j => occ (kings.getD k 0) j == (j != k && (decide (fD j k * fD j k ≤ 1) && decide (rD j k * rD j k ≤ 1)))) = true := by decide +kernel
theorem adj_ok : allBelow 64 (fun k => allBelow 64 fun j => !(j != k && (decide (fD j k * fD j k ≤ 1) && decide (rD j k * rD j k ≤ 1))) || ((strB j k || slaB j k) && (betw j k).isEmpty)) = true := by decide +kernel
theorem kn_bit (j k : Nat) (hj : j < 64) (hk : k < 64) : occ (knT k).toNat j = (fD j k * fD j k + rD j k * rD j k == 5) := by
  rw [knT, tab_toNatP (by decide)]
  exact eq_of_beq (allBelow_of (allBelow_of kn_ok k hk) j hj)
theorem kg_bit (j k : Nat) (hj : j < 64) (hk : k < 64) : occ (kgT k).toNat j = (j != k && (decide (fD j k * fD j k ≤ 1) && decide (rD j k * rD j k ≤ 1))) := by
  rw [kgT, tab_toNatP (by decide)]
  exact eq_of_beq (allBelow_of (allBelow_of kg_ok k hk) j hj)
theorem occ_or (a b : BitVec 64) (x : Nat) : occ (a ||| b).toNat x = (occ a.toNat x || occ b.toNat x) := by simp [occ, BitVec.toNat_or, Nat.testBit_or]
theorem occ_and (a b : BitVec 64) (x : Nat) : occ (a &&& b).toNat x = (occ a.toNat x && occ b.toNat x) := by simp [occ, BitVec.toNat_and, Nat.testBit_and]
theorem nz_iff (X : BitVec 64) : (tn X != 0) = true ↔ ∃ s, s < 64 ∧ occ X.toNat s = true := by
  constructor
  · intro h
    apply Classical.byContradiction
    intro hn
    have : X = 0#64 := by
      apply BitVec.eq_of_getLsbD_eq
      intro i hi
      have h1 : ¬ occ X.toNat (63 - i) = true := fun hb => hn ⟨63 - i, by omega, hb⟩
      have e : 63 - (63 - i) = i := by omega
      rw [occ, e] at h1
      simpa [BitVec.getLsbD] using h1
    subst this
    simp [tn] at h
  · rintro ⟨s, hs, h⟩
    rw [bne_iff_ne, ne_eq]
    intro e
    have e2 : X.toNat = 0 := by unfold tn at e; omega
    rw [e2] at h
    simp [occ] at h
end Go.Proofs.YthdbgjhonnogpaaDoor

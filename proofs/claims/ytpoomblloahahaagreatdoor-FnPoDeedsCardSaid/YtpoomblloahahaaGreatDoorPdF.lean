/- The law FnPoDeeds: early ways out, plain laws of its search. -/
import Derived.Test.YtpoomblloahahaaGreatDoorPdE
namespace Go.Proofs.YtpoomblloahahaaGreatDoor
open Go.Proofs Go.Shelf Go.Sort Go.Lib Go.ChangeShapes Go.WideShapes Go.ChangeAt Go.RowKit Go.PlainAid
set_option maxHeartbeats 4000000
set_option linter.unusedVariables false
set_option linter.unusedSimpArgs false

theorem wrapS (n : Int) (h0 : 0 ≤ n) (h1 : n < 65536) : IntKind.i64.wrap n = n := by
  simp only [IntKind.wrap, IntKind.bits, IntKind.signed]
  simp
  split <;> omega
theorem i64_or_small (a b : Nat) (ha : a < 65536) (hb : b < 65536) : bits .or .i64 (a : Int) (b : Int) = ((a ||| b : Nat) : Int) := by
  have hx : a ||| b < 2 ^ 16 := Nat.or_lt_two_pow (by omega) (by omega)
  show IntKind.i64.wrap ((BitVec.ofInt 64 (a : Int) ||| BitVec.ofInt 64 (b : Int)).toNat : Int) = _
  rw [BitVec.toNat_or, ofInt_u64 a (by omega), ofInt_u64 b (by omega), wrapS _ (by omega) (by omega)]
theorem code_law (fr tt v : Int) (h1 : 0 ≤ fr ∧ fr < 64) (h2 : 0 ≤ tt ∧ tt < 64) (hv : 0 ≤ v) (hv2 : v < 32768) (hv3 : v % 4096 = 0) : IntKind.u16.wrap (bits .or .i64 (bits .or .i64 (fr * 64) tt) v) = tt + 64 * fr + v := by
  obtain ⟨f, rfl⟩ := Int.eq_ofNat_of_zero_le h1.1
  obtain ⟨t, rfl⟩ := Int.eq_ofNat_of_zero_le h2.1
  obtain ⟨u, rfl⟩ := Int.eq_ofNat_of_zero_le hv
  have e1 : bits .or .i64 ((f : Int) * 64) (t : Int) = ((f * 64 + t : Nat) : Int) := by
    rw [show ((f : Int) * 64) = ((f * 64 : Nat) : Int) by omega, i64_or_small _ _ (by omega) (by omega), nat_join 6 _ _ (by omega) (by omega)]
  rw [e1, i64_or_small _ _ (by omega) (by omega), Nat.or_comm, nat_join 12 _ _ (by omega) (by omega), IntKind.wrap_u16]
  omega
/-- Two entries of one key and one move. -/
def sameE (x y : En) : Prop := x.1 = y.1 ∧ x.2.1 = y.2.1
/-- No two of the first k. -/
def UniqB (l : List En) (k : Nat) : Prop := ∀ a b : Nat, a < b → b < k → ¬ sameE (l.getD a e0) (l.getD b e0)
theorem UniqB.succ {l : List En} {k : Nat} (h : UniqB l k) (h2 : ∀ a, a < k → ¬ sameE (l.getD a e0) (l.getD k e0)) : UniqB l (k + 1) := fun a b hab hb => by
  by_cases e : b = k
  · subst e; exact h2 a hab
  · exact h a b hab (by omega)
def Uniq (l : List En) : Prop := UniqB l l.length
theorem hitE_iff (key code : Int) (x : En) : hitE key code x = true ↔ x.1 = key ∧ x.2.1 = code := by simp [hitE]
theorem hitE_no (key code : Int) (x : En) : hitE key code x = false ↔ ¬ (x.1 = key ∧ x.2.1 = code) := by rw [← hitE_iff]; simp
theorem getD_app (l : List En) (x : En) (i : Nat) : (l ++ [x]).getD i e0 = if i < l.length then l.getD i e0 else if i = l.length then x else e0 := by
  simp only [List.getD_eq_getElem?_getD]
  by_cases h : i < l.length
  · rw [if_pos h, List.getElem?_append_left h]
  · rw [if_neg h, List.getElem?_append_right (by omega)]
    by_cases h2 : i = l.length
    · subst h2; simp
    · rw [if_neg h2, List.getElem?_eq_none (by simp; omega)]; rfl
theorem uniq_app {l : List En} (h : Uniq l) (key code wt z : Int) (hn : ∀ i, i < l.length → hitE key code (l.getD i e0) = false) : Uniq (l ++ [(key, code, wt, z)]) := fun a b hab hb => by
  rw [List.length_append] at hb
  simp only [List.length_cons, List.length_nil] at hb
  rw [getD_app, getD_app, if_pos (by omega)]
  by_cases e : b < l.length
  · rw [if_pos e]; exact h a b hab e
  · rw [if_neg e, if_pos (by omega)]
    exact fun hs => (hitE_no _ _ _).1 (hn a (by omega)) hs
theorem updE_key (key code wt : Int) (x : En) : (updE key code wt x).1 = x.1 ∧ (updE key code wt x).2.1 = x.2.1 := by
  unfold updE; split <;> exact ⟨rfl, rfl⟩
theorem getD_map (f : En → En) (l : List En) (i : Nat) (h : i < l.length) : (l.map f).getD i e0 = f (l.getD i e0) := by
  rw [List.getD_eq_getElem?_getD, List.getD_eq_getElem?_getD, List.getElem?_map, List.getElem?_eq_getElem h]; rfl
theorem uniq_map {l : List En} (h : Uniq l) (key code wt : Int) : Uniq (l.map (updE key code wt)) := fun a b hab hb => by
  rw [List.length_map] at hb
  rw [getD_map _ _ _ (by omega), getD_map _ _ _ hb]
  unfold sameE
  rw [(updE_key _ _ _ _).1, (updE_key _ _ _ _).2, (updE_key _ _ _ _).1, (updE_key _ _ _ _).2]
  exact h a b hab hb
theorem uniq_iff (l : List En) : Uniq l ↔ l.Pairwise (fun x y => ¬ sameE x y) := by
  rw [List.pairwise_iff_getElem]
  constructor
  · intro h i j hi hj hij
    have := h i j hij hj
    rw [getD_at _ _ hi, getD_at _ _ hj] at this
    exact this
  · intro h a b hab hb
    rw [getD_at _ _ (by omega), getD_at _ _ hb]
    exact h a b (by omega) hb hab
theorem uniq_off {l : List En} (h : Uniq l) (key : Int) : Uniq (offL key l) := by
  rw [uniq_iff] at h ⊢
  exact h.filter _
theorem uniq_doD {l : List En} (h : Uniq l) (d : Dd) (hn : d.1 = 1 → ∀ i, i < l.length → hitE d.2.1 (codeD d) (l.getD i e0) = false) : Uniq (doD l d) := by
  unfold doD
  split
  · exact uniq_app h _ _ _ _ (hn ‹_›)
  · split
    · exact uniq_map h _ _ _
    · exact uniq_off h _
/-- What the search has found among the first k. -/
def AtI (l : List En) (key code : Int) (k : Nat) (a : Value) : Prop :=
  (a = .int .i64 (-1) ∧ ∀ i, i < k → hitE key code (l.getD i e0) = false) ∨ ∃ j : Nat, j < k ∧ a = .int .i64 (j : Int) ∧ hitE key code (l.getD j e0) = true
theorem any_of_hit {l : List En} {key code : Int} {j : Nat} (hj : j < l.length) (h : hitE key code (l.getD j e0) = true) : l.any (hitE key code) = true := by
  rw [List.any_eq_true]
  refine ⟨l.getD j e0, ?_, h⟩
  rw [getD_at _ _ hj]; exact List.getElem_mem _
theorem any_of_none {l : List En} {key code : Int} (h : ∀ i, i < l.length → hitE key code (l.getD i e0) = false) : l.any (hitE key code) = false := by
  rw [List.any_eq_false]
  intro x hx
  obtain ⟨i, hi, rfl⟩ := List.getElem_of_mem hx
  rw [← getD_at _ _ hi, h i hi]; simp
/-- Where nothing is hit nothing changes. -/
theorem map_none {l : List En} {key code wt : Int} (h : ∀ i, i < l.length → hitE key code (l.getD i e0) = false) : l.map (updE key code wt) = l := by
  apply List.ext_getElem (by simp)
  intro i h1 h2
  rw [List.getElem_map, updE, if_neg]
  rw [← getD_at _ _ h2, h i h2]; simp
/-- The weight of the one entry is changed. -/
theorem map_one {l : List En} (hu : Uniq l) {key code wt : Int} {j : Nat} (hj : j < l.length) (h : hitE key code (l.getD j e0) = true) (i : Nat) (hi : i < l.length) : (l.map (updE key code wt)).getD i e0 = if i = j then ((l.getD j e0).1, (l.getD j e0).2.1, wt, (l.getD j e0).2.2.2) else l.getD i e0 := by
  rw [getD_map _ _ _ hi]
  by_cases e : i = j
  · subst e; rw [if_pos rfl, updE, if_pos h]
  · rw [if_neg e, updE, if_neg]
    intro h2
    have h3 := (hitE_iff _ _ _).1 h
    have h4 := (hitE_iff _ _ _).1 h2
    rcases Nat.lt_or_ge i j with h5 | h5
    · exact hu i j h5 hj ⟨h4.1.trans h3.1.symm, h4.2.trans h3.2.symm⟩
    · exact hu j i (by omega) hi ⟨h3.1.trans h4.1.symm, h3.2.trans h4.2.symm⟩
/-- The weight of the one entry is stored. -/
theorem own_one {B g n cap j : Nat} {T : TypeId} {l : List En} {key code wt : Int} {cur : Array Value} {w : World} (hu : Uniq l) (hj : j < l.length) (hn : n = l.length) (h : w.ownsRow B T 4 (.slice (some ⟨g, 0, none⟩) n cap) n (ents l)) (hg : w.heap[g]? = some (.cells cur T (0, 0))) (hit : hitE key code (l.getD j e0) = true)
    (hc : ∀ i, i < n → ∀ q, q < 4 → w.cell? ⟨g, i * 4 + q, none⟩ = some (enF (l.getD i e0) q)) :
    (w.setCell ⟨g, j * 4 + 2, none⟩ (.int .u16 wt)).ownsRow B T 4 (.slice (some ⟨g, 0, none⟩) n cap) n (ents (l.map (updE key code wt))) := by
  subst hn
  have hblk : (w.setCell ⟨g, j * 4 + 2, none⟩ (.int .u16 wt)).heap[g]? = some (.cells (cur.setIfInBounds (j * 4 + 2) (.int .u16 wt)) T (0, 0)) := by
    simp only [World.setCell, Array.getElem?_modify, if_pos, hg]
    rfl
  refine own_cells h hg hblk (by simp) (by simp) (fun i hi q hq => ?_)
  rw [map_one hu hj hit i hi]
  have h1 := hc i hi q hq
  by_cases he : i * 4 + q = j * 4 + 2
  · obtain rfl : i = j := by omega
    obtain rfl : q = 2 := by omega
    rw [if_pos rfl]
    exact World.cell?_setCell_same _ _ _ h1
  · rw [World.cell?_setCell_other _ _ _ _ (by intro e; injection e with _ e; omega), h1]
    by_cases hik : i = j
    · subst hik
      rw [if_pos rfl]
      have : q = 0 ∨ q = 1 ∨ q = 3 := by omega
      rcases this with rfl | rfl | rfl <;> rfl
    · rw [if_neg hik]
theorem dnD_get (A : List En) (ds : List Dd) (n i : Nat) (h : i < n) : (dnD A ds n).getD i false = doneD (bkD A ds i) (ds.getD i d0) := by
  rw [List.getD_eq_getElem?_getD, List.getElem?_eq_getElem (by rw [dnD_len]; exact h)]
  simp [dnD]
set_option maxRecDepth 100000 in
theorem deeds_long (v vd : Value) (L : List UInt8) (ds : List Dd) (hs : 2147483647 < L.length ∨ 2147483647 < ds.length) (W : World) (hD : DataAt W v L) (hE : DeedsAt W vd ds) :
    Calls Tryz.prog 3 #[v, vd] W fun e w' => e = .returned (.bool true) ∧ RowKit.Below W.heap.size W w' := by
  obtain ⟨a, c, rfl, hx1, hx2⟩ := hD
  obtain ⟨a2, c2, rfl, hx3⟩ := hE
  clear hx1 hx2 hx3
  by_cases h1 : 2147483647 < L.length
  · have hd : decide ((2147483647 : Int) < (L.length : Int)) = true := by simp; omega
    go_enter Tryz.func3, Tryz.ntmps3
    go_wp2
    go_ret
    exact ⟨rfl, RowKit.Below.refl _ _⟩
  · have hd : decide ((2147483647 : Int) < (L.length : Int)) = false := by simp; omega
    have hd2 : decide ((2147483647 : Int) < (ds.length : Int)) = true := by simp; omega
    go_enter Tryz.func3, Tryz.ntmps3
    go_wp2
    go_ret
    exact ⟨rfl, RowKit.Below.refl _ _⟩
set_option maxRecDepth 100000 in
theorem deeds_out (v vd : Value) (L : List UInt8) (ds : List Dd) (hs : L.length ≤ 2147483647) (hs2 : ds.length ≤ 2147483647) (h : 640 < L.length ∨ L.length % 16 ≠ 0 ∨ 12 < ds.length) (W : World) (hD : DataAt W v L) (hE : DeedsAt W vd ds) :
    Calls Tryz.prog 3 #[v, vd] W fun e w' => e = .returned (.bool true) ∧ RowKit.Below W.heap.size W w' := by
  have hr := Lib.hid (poRead_any v L W hD hs)
  obtain ⟨a, c, rfl, hx1, hx2⟩ := hD
  obtain ⟨a2, c2, rfl, hx3⟩ := hE
  clear hx1 hx2 hx3
  have hd : decide ((2147483647 : Int) < (L.length : Int)) = false := by simp; omega
  have hd2 : decide ((2147483647 : Int) < (ds.length : Int)) = false := by simp; omega
  have ht : (L.length : Int).tmod 16 = ((L.length % 16 : Nat) : Int) := by rw [Int.tmod_eq_emod_of_nonneg (by omega)]; omega
  by_cases h1 : 640 < L.length
  · have f1 : decide ((640 : Int) < (L.length : Int)) = true := by simp; omega
    go_enter Tryz.func3, Tryz.ntmps3
    go_wp2_with (fail)
    refine hr.out.mono ?_
    rintro e w1 ⟨u, rfl, ho, hb1⟩
    clear ho hr h
    go_wp2_with (fail)
    go_ret
    exact ⟨rfl, hb1⟩
  · have f1 : decide ((640 : Int) < (L.length : Int)) = false := by simp; omega
    by_cases h2 : L.length % 16 ≠ 0
    · have f2 : (((L.length % 16 : Nat) : Int) != 0) = true := by simp only [bne_iff_ne, ne_eq]; omega
      go_enter Tryz.func3, Tryz.ntmps3
      go_wp2_with (fail)
      refine hr.out.mono ?_
      rintro e w1 ⟨u, rfl, ho, hb1⟩
      clear ho hr h h2
      generalize L.length % 16 = r at *
      go_wp2_with (fail)
      go_ret
      exact ⟨rfl, hb1⟩
    · have f2 : (((L.length % 16 : Nat) : Int) != 0) = false := by simp only [bne_eq_false_iff_eq]; omega
      have f3 : decide ((12 : Int) < (ds.length : Int)) = true := by simp; omega
      go_enter Tryz.func3, Tryz.ntmps3
      go_wp2_with (fail)
      refine hr.out.mono ?_
      rintro e w1 ⟨u, rfl, ho, hb1⟩
      clear ho hr h h2
      generalize L.length % 16 = r at *
      go_wp2_with (fail)
      go_ret
      exact ⟨rfl, hb1⟩
end Go.Proofs.YtpoomblloahahaaGreatDoor

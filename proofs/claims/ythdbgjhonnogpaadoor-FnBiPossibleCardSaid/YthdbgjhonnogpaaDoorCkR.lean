/- Check in plain Lean: the whole; and the law's walk. -/
import Derived.Test.YthdbgjhonnogpaaDoorCkQ
import Derived.Test.YthdbgjhonnogpaaDoorCkD
namespace Go.Proofs.YthdbgjhonnogpaaDoor
open Go.ChangeShapes Go.WideShapes Go.ChangeAt Go.RowKit Plain
set_option maxHeartbeats 1000000
set_option linter.unusedVariables false
set_option linter.unusedSimpArgs false

theorem lastOf_eq (f : Nat → Bool) (s : Nat) : ∀ n, s < n → f s = true → (∀ i, i < n → f i = true → i = s) → lastOf f n = s
  | 0, h, _, _ => absurd h (by omega)
  | n + 1, h, hs, hu => by
    unfold lastOf
    by_cases hf : f n = true
    · rw [if_pos hf, hu n (by omega) hf]
    · rw [if_neg hf]
      have hne : s ≠ n := fun e => hf (e ▸ hs)
      exact lastOf_eq f s n (by omega) hs fun i hi => hu i (by omega)
theorem cnt_ge {p : Nat → Bool} {i n : Nat} (hi : i < n) (hp : p i = true) : 1 ≤ cnt p n := by
  rcases Nat.eq_zero_or_pos (cnt p n) with h | h
  · have := cnt_zero.1 h i hi
    rw [hp] at this; cases this
  · exact h
theorem cnt_two {p : Nat → Bool} : ∀ (n i j : Nat), i < j → j < n → p i = true → p j = true → 2 ≤ cnt p n
  | 0, _, _, _, h, _, _ => absurd h (by omega)
  | n + 1, i, j, hij, hj, hi, hjp => by
    rw [cnt_succ]
    by_cases e : j = n
    · subst e
      have := cnt_ge (p := p) hij hi
      rw [if_pos hjp]; omega
    · have := cnt_two n i j hij (by omega) hi hjp
      split <;> omega
theorem cnt_uniq {p : Nat → Bool} {n i j : Nat} (h : cnt p n = 1) (hi : i < n) (hj : j < n) (pi : p i = true) (pj : p j = true) : i = j := by
  rcases Nat.lt_trichotomy i j with hl | hl | hl
  · have := cnt_two n i j hl hj pi pj; omega
  · exact hl
  · have := cnt_two n j i hl hi pj pi; omega
theorem king_sq {g : Nat → Int} {s : Int} (h : 0 ≤ kingAt g s) : g (kingAt g s).toNat = 1 + 6 * s := kFrom_at g _ 64 0 h
theorem wk_eq {g : Nat → Int} (h : 0 ≤ kingAt g 0) (h1 : cnt (fun i => g i == 1 + 6 * 0) 64 = 1) : wkOf (bbsOf g) 64 = kingAt g 0 := by
  have hr := kingAt_range g 0
  have hk := king_sq h
  have e : ((kingAt g 0).toNat : Int) = kingAt g 0 := Int.toNat_of_nonneg h
  rw [← e]
  have hb : ∀ i, i < 64 → (occ (bbsOf g 0).toNat i = true ↔ g i = 1) := fun i hi => by rw [occ_bbsOf g 0 i hi, beq_iff_eq]; simp
  refine lastOf_eq _ _ 64 (by omega) ((hb _ (by omega)).2 (by rw [hk]; rfl)) fun i hi hi1 => ?_
  exact cnt_uniq h1 hi (by omega) (by rw [(hb i hi).1 hi1]; rfl) (by rw [hk]; rfl)
theorem bk_eq {g : Nat → Int} (h : 0 ≤ kingAt g 1) (h1 : cnt (fun i => g i == 1 + 6 * 1) 64 = 1) : bkOf (bbsOf g) 64 = kingAt g 1 := by
  have hr := kingAt_range g 1
  have hk := king_sq h
  have e : ((kingAt g 1).toNat : Int) = kingAt g 1 := Int.toNat_of_nonneg h
  rw [← e]
  have hb : ∀ i, i < 64 → ((!occ (bbsOf g 0).toNat i && occ (bbsOf g 6).toNat i) = true ↔ g i = 7) := fun i hi => by
    rw [occ_bbsOf g 0 i hi, occ_bbsOf g 6 i hi, Bool.and_eq_true, beq_iff_eq, Bool.not_eq_true', beq_eq_false_iff_ne]
    omega
  refine lastOf_eq _ _ 64 (by omega) ((hb _ (by omega)).2 (by rw [hk]; rfl)) fun i hi hi1 => ?_
  exact cnt_uniq h1 hi (by omega) (by rw [(hb i hi).1 hi1]; rfl) (by rw [hk]; rfl)
theorem white_bit (g : Nat → Int) (hg : ∀ i, i < 64 → 0 ≤ g i ∧ g i ≤ 12) (s : Nat) (hs : s < 64) : occ (whiteOf (bbsOf g)).toNat s = true ↔ (1 ≤ g s ∧ g s ≤ 6) := by
  unfold whiteOf
  simp only [occ_or, occ_bbsOf g _ s hs, Bool.or_eq_true, beq_iff_eq]
  omega
theorem black_bit (g : Nat → Int) (hg : ∀ i, i < 64 → 0 ≤ g i ∧ g i ≤ 12) (s : Nat) (hs : s < 64) : occ (blackOf (bbsOf g)).toNat s = true ↔ (7 ≤ g s ∧ g s ≤ 12) := by
  unfold blackOf
  simp only [occ_or, occ_bbsOf g _ s hs, Bool.or_eq_true, beq_iff_eq]
  omega
theorem full_bit (g : Nat → Int) (hg : ∀ i, i < 64 → 0 ≤ g i ∧ g i ≤ 12) (x : Nat) (hx : x < 64) : occ (~~~(fullOf (bbsOf g) 14)).toNat x = (g x != 0) := by
  have e : ~~~(fullOf (bbsOf g) 14) = whiteOf (bbsOf g) ||| blackOf (bbsOf g) := by
    unfold fullOf
    rw [if_neg (by omega), if_neg (by omega), if_neg (by omega), BitVec.not_not]
  rw [e, occ_or, Bool.eq_iff_iff, Bool.or_eq_true, white_bit g hg x hx, black_bit g hg x hx, bne_iff_ne]
  have := hg x hx
  omega
theorem sqAt1_eq (g : Nat → Int) (hg : ∀ i, i < 64 → 0 ≤ g i ∧ g i ≤ 12) (k : Nat) (hk : k < 64) : sqAt1 (bbsOf g) k = attB g k 1 := by
  have h := atk_main g hg k hk 1 (.inr rfl) (~~~(fullOf (bbsOf g) 14)) (fullOf (bbsOf g) 13) (pawnW (bbsOf g 11) (bitB k)) (full_bit g hg) (fun s hs => by
    rw [show fullOf (bbsOf g) 13 = blackOf (bbsOf g) from rfl, black_bit g hg s hs]; omega) (by
    rw [pawnW_iff _ k hk]
    constructor
    · rintro ⟨s, hs, h1, h2, h3⟩
      rw [occ_bbsOf g 11 s hs, beq_iff_eq] at h1
      exact ⟨s, hs, by omega, h2, by omega⟩
    · rintro ⟨s, hs, h1, h2, h3⟩
      exact ⟨s, hs, by rw [occ_bbsOf g 11 s hs, beq_iff_eq]; omega, h2, by omega⟩)
  exact h
theorem sqAt2_eq (g : Nat → Int) (hg : ∀ i, i < 64 → 0 ≤ g i ∧ g i ≤ 12) (k : Nat) (hk : k < 64) : sqAt2 (bbsOf g) k = attB g k 0 := by
  have h := atk_main g hg k hk 0 (.inl rfl) (~~~(fullOf (bbsOf g) 14)) (fullOf (bbsOf g) 12) (pawnB (bbsOf g 5) (bitB k)) (full_bit g hg) (fun s hs => by
    rw [show fullOf (bbsOf g) 12 = whiteOf (bbsOf g) from rfl, white_bit g hg s hs]; omega) (by
    rw [pawnB_iff _ k hk]
    constructor
    · rintro ⟨s, hs, h1, h2, h3⟩
      rw [occ_bbsOf g 5 s hs, beq_iff_eq] at h1
      exact ⟨s, hs, by omega, h2, by omega⟩
    · rintro ⟨s, hs, h1, h2, h3⟩
      exact ⟨s, hs, by rw [occ_bbsOf g 5 s hs, beq_iff_eq]; omega, h2, by omega⟩)
  exact h
theorem ck_eq (g : Nat → Int) (hV : VG g) (c : Nat) (hc : c ≤ 1) (hgc : g 64 = (c : Int)) : ckOf g c = chkB g (g 64) := by
  rw [hgc]
  unfold ckOf inCk chkB
  (have : c = 0 ∨ c = 1 := (by omega))
  rcases this with rfl | rfl
  · have h0 := hV.kings.1
    have hr := kingAt_range g 0
    rw [if_pos (show ((0 : Nat) : Int) + 1 = 1 from rfl), wk_eq h0 hV.ones.1, if_neg (by omega), sqAt1_eq g hV.board _ (by omega)]
    rw [show ((0 : Nat) : Int) = 0 from rfl, decide_eq_true h0, Bool.true_and]
    rfl
  · have h0 := hV.kings.2
    have hr := kingAt_range g 1
    rw [if_neg (by decide), bk_eq h0 hV.ones.2, if_neg (by omega), sqAt2_eq g hV.board _ (by omega)]
    rw [show ((1 : Nat) : Int) = 1 from rfl, decide_eq_true h0, Bool.true_and]
    rfl
theorem mvCheck_any (g : Nat → Int) (W : World) (hT : Tabs W) (hP : TabsP W) (hK : KTabs W) :
    Calls Tryd.prog 3 #[intRow 69 g] W fun e w' => e = .returned (.bool true) ∧ Below W.heap.size W w' :=
  checkWalk g (fun hV c hc hgc => ck_eq g hV c hc hgc) W hT hP hK
end Go.Proofs.YthdbgjhonnogpaaDoor

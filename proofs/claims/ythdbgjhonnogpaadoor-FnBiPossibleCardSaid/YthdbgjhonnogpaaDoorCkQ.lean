/- Check in plain Lean: what the program reckons is the rules' word. -/
import Derived.Test.YthdbgjhonnogpaaDoorCkP
import Derived.Test.YthdbgjhonnogpaaDoorCkB
namespace Go.Proofs.YthdbgjhonnogpaaDoor
open Plain
set_option maxHeartbeats 1000000
set_option linter.unusedVariables false
set_option linter.unusedSimpArgs false

theorem maskH : allBelow 64 (fun i => (18374403900871474942#64).getLsbD i == decide (i % 8 ≠ 0)) = true := by decide +kernel
theorem maskA : allBelow 64 (fun i => (9187201950435737471#64).getLsbD i == decide (i % 8 ≠ 7)) = true := by decide +kernel
theorem mask1 : allBelow 64 (fun i => (72057594037927935#64).getLsbD i == decide (i < 56)) = true := by decide +kernel
theorem mask8 : allBelow 64 (fun i => (18446744073709551360#64).getLsbD i == decide (8 ≤ i)) = true := by decide +kernel
theorem mH (i : Nat) (h : i < 64) : (18374403900871474942#64).getLsbD i = decide (i % 8 ≠ 0) := eq_of_beq (allBelow_of maskH i h)
theorem mA (i : Nat) (h : i < 64) : (9187201950435737471#64).getLsbD i = decide (i % 8 ≠ 7) := eq_of_beq (allBelow_of maskA i h)
theorem m1 (i : Nat) (h : i < 64) : (72057594037927935#64).getLsbD i = decide (i < 56) := eq_of_beq (allBelow_of mask1 i h)
theorem m8 (i : Nat) (h : i < 64) : (18446744073709551360#64).getLsbD i = decide (8 ≤ i) := eq_of_beq (allBelow_of mask8 i h)
theorem bitB_bit (k t : Nat) (hk : k < 64) (ht : t < 64) : occ (bitB k).toNat t = decide (t = k) := by
  unfold occ
  rw [bitB_toNatP, bit, Nat.testBit_two_pow]
  by_cases e : t = k
  · subst e; simp
  · have e3 : ¬ (63 - k = 63 - t) := by omega
    simp [e3, e]
theorem at_bit (Z : BitVec 64) (k : Nat) (hk : k < 64) : (tn (Z &&& bitB k) != 0) = true ↔ Z.getLsbD (63 - k) = true := by
  rw [nz_iff]
  constructor
  · rintro ⟨s, hs, h⟩
    rw [occ_and, bitB_bit k s hk hs, Bool.and_eq_true, decide_eq_true_iff] at h
    obtain ⟨h, rfl⟩ := h
    exact h
  · intro h
    refine ⟨k, hk, ?_⟩
    rw [occ_and, bitB_bit k k hk hk, Bool.and_eq_true]
    exact ⟨h, by simp⟩
theorem occ_lsb (p : BitVec 64) (s : Nat) : occ p.toNat s = p.getLsbD (63 - s) := rfl
theorem pawnW_iff (p : BitVec 64) (k : Nat) (hk : k < 64) : (tn (pawnW p (bitB k)) != 0) = true ↔ ∃ s, s < 64 ∧ occ p.toNat s = true ∧ (fD s k = 1 ∨ fD s k = -1) ∧ rD s k = -1 := by
  unfold pawnW
  rw [at_bit _ k hk]
  simp only [BitVec.getLsbD_or, BitVec.getLsbD_shiftLeft, BitVec.getLsbD_and, Bool.or_eq_true, Bool.and_eq_true, Bool.not_eq_true', decide_eq_true_eq, decide_eq_false_iff_not]
  constructor
  · rintro (⟨⟨_, h7⟩, ⟨hp, hH⟩, h1⟩ | ⟨⟨_, h9⟩, ⟨hp, hA⟩, h1⟩)
    · rw [mH _ (by omega), decide_eq_true_iff] at hH
      rw [m1 _ (by omega), decide_eq_true_iff] at h1
      refine ⟨k + 7, by omega, ?_, ?_⟩
      · rw [occ_lsb, show 63 - (k + 7) = 63 - k - 7 by omega]; exact hp
      · unfold fD rD; omega
    · rw [mA _ (by omega), decide_eq_true_iff] at hA
      rw [m1 _ (by omega), decide_eq_true_iff] at h1
      refine ⟨k + 9, by omega, ?_, ?_⟩
      · rw [occ_lsb, show 63 - (k + 9) = 63 - k - 9 by omega]; exact hp
      · unfold fD rD; omega
  · rintro ⟨s, hs, hp, hf, hr⟩
    rw [occ_lsb] at hp
    unfold fD at hf
    unfold rD at hr
    rcases hf with hf | hf
    · left
      have e : s = k + 7 := by omega
      subst e
      rw [show 63 - (k + 7) = 63 - k - 7 by omega] at hp
      refine ⟨⟨by omega, by omega⟩, ⟨hp, ?_⟩, ?_⟩
      · rw [mH _ (by omega), decide_eq_true_iff]; omega
      · rw [m1 _ (by omega), decide_eq_true_iff]; omega
    · right
      have e : s = k + 9 := by omega
      subst e
      rw [show 63 - (k + 9) = 63 - k - 9 by omega] at hp
      refine ⟨⟨by omega, by omega⟩, ⟨hp, ?_⟩, ?_⟩
      · rw [mA _ (by omega), decide_eq_true_iff]; omega
      · rw [m1 _ (by omega), decide_eq_true_iff]; omega
theorem lsb_hi (p : BitVec 64) (i : Nat) (h : p.getLsbD i = true) : i < 64 := BitVec.lt_of_getLsbD h
theorem pawnB_iff (p : BitVec 64) (k : Nat) (hk : k < 64) : (tn (pawnB p (bitB k)) != 0) = true ↔ ∃ s, s < 64 ∧ occ p.toNat s = true ∧ (fD s k = 1 ∨ fD s k = -1) ∧ rD s k = 1 := by
  unfold pawnB
  rw [at_bit _ k hk]
  simp only [BitVec.getLsbD_or, BitVec.getLsbD_ushiftRight, BitVec.getLsbD_and, Bool.or_eq_true, Bool.and_eq_true]
  constructor
  · rintro (⟨⟨hp, hH⟩, h1⟩ | ⟨⟨hp, hA⟩, h1⟩)
    · have hi := lsb_hi _ _ hp
      rw [mH _ (by omega), decide_eq_true_iff] at hH
      refine ⟨k - 9, by omega, ?_, ?_⟩
      · rw [occ_lsb, show 63 - (k - 9) = 9 + (63 - k) by omega]; exact hp
      · unfold fD rD; omega
    · have hi := lsb_hi _ _ hp
      rw [mA _ (by omega), decide_eq_true_iff] at hA
      refine ⟨k - 7, by omega, ?_, ?_⟩
      · rw [occ_lsb, show 63 - (k - 7) = 7 + (63 - k) by omega]; exact hp
      · unfold fD rD; omega
  · rintro ⟨s, hs, hp, hf, hr⟩
    rw [occ_lsb] at hp
    unfold fD at hf
    unfold rD at hr
    rcases hf with hf | hf
    · left
      have e : k = s + 9 := by omega
      subst e
      rw [show 63 - s = 9 + (63 - (s + 9)) by omega] at hp
      refine ⟨⟨hp, ?_⟩, ?_⟩
      · rw [mH _ (by omega), decide_eq_true_iff]; omega
      · rw [m8 _ (by omega), decide_eq_true_iff]; omega
    · right
      have e : k = s + 7 := by omega
      subst e
      rw [show 63 - s = 7 + (63 - (s + 7)) by omega] at hp
      refine ⟨⟨hp, ?_⟩, ?_⟩
      · rw [mA _ (by omega), decide_eq_true_iff]; omega
      · rw [m8 _ (by omega), decide_eq_true_iff]; omega
theorem atkB_iff (D H N K s2 q r b n p k : BitVec 64) : atkB D H N K s2 q r b n p k = true ↔ (tn (((D ||| H) &&& s2) ||| (N &&& s2)) != 0) = true ∧ ((tn ((D ||| H) &&& q) != 0) = true ∨ (tn (H &&& r) != 0) = true ∨ (tn (D &&& b) != 0) = true ∨ (tn (N &&& n) != 0) = true ∨ (tn p != 0) = true ∨ (tn (K &&& k) != 0) = true) := by
  unfold atkB
  rw [show (tn (((D ||| H) &&& s2) ||| (N &&& s2)) == 0) = !(tn (((D ||| H) &&& s2) ||| (N &&& s2)) != 0) by simp [bne]]
  generalize (tn (((D ||| H) &&& s2) ||| (N &&& s2)) != 0) = a0
  generalize (tn ((D ||| H) &&& q) != 0) = a1
  generalize (tn (H &&& r) != 0) = a2
  generalize (tn (D &&& b) != 0) = a3
  generalize (tn (N &&& n) != 0) = a4
  generalize (tn p != 0) = a5
  generalize (tn (K &&& k) != 0) = a6
  cases a0 <;> cases a1 <;> cases a2 <;> cases a3 <;> cases a4 <;> cases a5 <;> cases a6 <;> simp
theorem sq_one {f : Int} (h0 : -7 ≤ f) (h1 : f ≤ 7) : f * f = 1 ↔ (f = 1 ∨ f = -1) := by
  have h : f = -7 ∨ f = -6 ∨ f = -5 ∨ f = -4 ∨ f = -3 ∨ f = -2 ∨ f = -1 ∨ f = 0 ∨ f = 1 ∨ f = 2 ∨ f = 3 ∨ f = 4 ∨ f = 5 ∨ f = 6 ∨ f = 7 := by omega
  rcases h with rfl | rfl | rfl | rfl | rfl | rfl | rfl | rfl | rfl | rfl | rfl | rfl | rfl | rfl | rfl <;> decide
theorem hitK_line (g : Nat → Int) (m : Int) (hm : m = 2 ∨ m = 3 ∨ m = 4) (j k : Nat) : hitK g m j k = true ↔ ((m ≠ 4 ∧ strB j k = true) ∨ (m ≠ 3 ∧ slaB j k = true)) ∧ lineB g j k = true := by
  rcases hm with rfl | rfl | rfl <;> unfold hitK <;> cases strB j k <;> cases slaB j k <;> simp
/-- One side's attack on a square. -/
theorem atk_main (g : Nat → Int) (hg : ∀ i, i < 64 → 0 ≤ g i ∧ g i ≤ 12) (k : Nat) (hk : k < 64) (b : Nat) (hb : b = 0 ∨ b = 1) (O S2 P : BitVec 64)
    (hO : ∀ x, x < 64 → occ O.toNat x = (g x != 0)) (hS2 : ∀ s, s < 64 → (occ S2.toNat s = true ↔ (6 * (b : Int) + 1 ≤ g s ∧ g s ≤ 6 * (b : Int) + 6)))
    (hP : (tn P != 0) = true ↔ ∃ s, s < 64 ∧ g s = 6 * (b : Int) + 6 ∧ (fD s k = 1 ∨ fD s k = -1) ∧ rD s k = 1 - 2 * (b : Int)) :
    atkB (diaOf O k) (hvOf O k) (knT k) (kgT k) S2 (bbsOf g (6 * b + 1)) (bbsOf g (6 * b + 2)) (bbsOf g (6 * b + 3)) (bbsOf g (6 * b + 4)) P (bbsOf g (6 * b)) = attB g k (b : Int) := by
  have hsla : ∀ j, j < 64 → (occ (diaOf O k).toNat j = true ↔ (slaB j k = true ∧ j ≠ k ∧ lineB g j k = true)) := fun j hj => by
    rw [dia_bit O j k hj hk, line_iff]
    constructor
    · rintro ⟨h1, h2, h3⟩
      exact ⟨h1, h2, fun x hx => by have := h3 x hx; rw [hO x (betw_lt hj hk h2 (by rw [h1, Bool.or_true]) x hx)] at this; simpa using this⟩
    · rintro ⟨h1, h2, h3⟩
      exact ⟨h1, h2, fun x hx => by rw [hO x (betw_lt hj hk h2 (by rw [h1, Bool.or_true]) x hx), h3 x hx]; rfl⟩
  have hstr : ∀ j, j < 64 → (occ (hvOf O k).toNat j = true ↔ (strB j k = true ∧ j ≠ k ∧ lineB g j k = true)) := fun j hj => by
    rw [hv_bit O j k hj hk, line_iff]
    constructor
    · rintro ⟨h1, h2, h3⟩
      exact ⟨h1, h2, fun x hx => by have := h3 x hx; rw [hO x (betw_lt hj hk h2 (by rw [h1, Bool.true_or]) x hx)] at this; simpa using this⟩
    · rintro ⟨h1, h2, h3⟩
      exact ⟨h1, h2, fun x hx => by rw [hO x (betw_lt hj hk h2 (by rw [h1, Bool.true_or]) x hx), h3 x hx]; rfl⟩
  have hbb : ∀ (m s : Nat), s < 64 → (occ (bbsOf g (6 * b + m)).toNat s = true ↔ g s = 6 * (b : Int) + ((m : Int) + 1)) := fun m s hs => by
    rw [occ_bbsOf g _ s hs, beq_iff_eq]; omega
  have hhit : ∀ (j : Nat) (m : Int), j < 64 → 1 ≤ m → m ≤ 6 → g j = 6 * (b : Int) + m → (hitsBy g k (b : Int) j = true ↔ (j ≠ k ∧ hitK g m j k = true)) := fun j m hj h1 h2 he => by
    have e1 : (g j != 0) = true := by simp; omega
    have e2 : sideOf (g j) = (b : Int) := by unfold sideOf; rcases hb with rfl | rfl <;> (split <;> omega)
    have e3 : kindOf (g j) = m := by unfold kindOf; rcases hb with rfl | rfl <;> (split <;> omega)
    unfold hitsBy
    rw [e1, e2]
    simp only [Bool.true_and, beq_self_eq_true]
    unfold hitB
    by_cases hjk : j = k
    · simp [hjk]
    · rw [if_neg (by simp at e1; simp [hjk, e1]), e3]
      simp [hjk]
  have hup : ∀ j, j < 64 → g j = 6 * (b : Int) + 6 → upI (sideOf (g j)) = 1 - 2 * (b : Int) := fun j hj he => by
    unfold upI sideOf; rcases hb with rfl | rfl <;> (split <;> omega)
  have hkind : ∀ j, j < 64 → hitsBy g k (b : Int) j = true → ∃ m : Int, 1 ≤ m ∧ m ≤ 6 ∧ g j = 6 * (b : Int) + m := fun j hj h => by
    unfold hitsBy at h
    simp only [Bool.and_eq_true, bne_iff_ne, ne_eq, beq_iff_eq] at h
    obtain ⟨h1, h2, _⟩ := h
    have h3 := hg j hj
    refine ⟨g j - 6 * (b : Int), ?_, ?_, by omega⟩
    · unfold sideOf at h2; rcases hb with rfl | rfl <;> (split at h2 <;> omega)
    · unfold sideOf at h2; rcases hb with rfl | rfl <;> (split at h2 <;> omega)
  have hadj : ∀ j, j < 64 → j ≠ k → fD j k * fD j k ≤ 1 → rD j k * rD j k ≤ 1 → (occ (diaOf O k).toNat j = true ∨ occ (hvOf O k).toNat j = true) := fun j hj hne h1 h2 => by
    have h3 := allBelow_of (allBelow_of adj_ok k hk) j hj
    rw [show (j != k) = true by simpa using hne, decide_eq_true h1, decide_eq_true h2] at h3
    simp only [Bool.and_self, Bool.not_true, Bool.false_or, Bool.and_eq_true, Bool.or_eq_true, List.isEmpty_iff] at h3
    obtain ⟨h4, h5⟩ := h3
    have hl : lineB g j k = true := by rw [line_iff, h5]; intro x hx; cases hx
    rcases h4 with h4 | h4
    · exact .inr ((hstr j hj).2 ⟨h4, hne, hl⟩)
    · exact .inl ((hsla j hj).2 ⟨h4, hne, hl⟩)
  have hnear : ∀ j, j < 64 → 6 * (b : Int) + 1 ≤ g j ∧ g j ≤ 6 * (b : Int) + 6 → (occ (diaOf O k).toNat j = true ∨ occ (hvOf O k).toNat j = true ∨ occ (knT k).toNat j = true) → (tn (((diaOf O k ||| hvOf O k) &&& S2) ||| (knT k &&& S2)) != 0) = true := fun j hj h1 h2 => by
    rw [nz_iff]
    refine ⟨j, hj, ?_⟩
    rw [occ_or, occ_and, occ_and, occ_or, (hS2 j hj).2 h1]
    rcases h2 with h | h | h <;> simp [h]
  rw [Bool.eq_iff_iff, atkB_iff, attB_iff, hP]
  constructor
  · rintro ⟨_, h | h | h | h | h | h⟩
    · obtain ⟨s, hs, h⟩ := (nz_iff _).1 h
      rw [occ_and, occ_or, Bool.and_eq_true, Bool.or_eq_true, hbb 1 s hs, hsla s hs, hstr s hs] at h
      obtain ⟨h, hq⟩ := h
      refine ⟨s, hs, (hhit s 2 hs (by omega) (by omega) (by omega)).2 ?_⟩
      rw [hitK_line g 2 (by omega)]
      rcases h with ⟨h1, h2, h3⟩ | ⟨h1, h2, h3⟩
      · exact ⟨h2, .inr ⟨by omega, h1⟩, h3⟩
      · exact ⟨h2, .inl ⟨by omega, h1⟩, h3⟩
    · obtain ⟨s, hs, h⟩ := (nz_iff _).1 h
      rw [occ_and, Bool.and_eq_true, hbb 2 s hs, hstr s hs] at h
      obtain ⟨⟨h1, h2, h3⟩, hq⟩ := h
      refine ⟨s, hs, (hhit s 3 hs (by omega) (by omega) (by omega)).2 ⟨h2, ?_⟩⟩
      rw [hitK_line g 3 (by omega)]
      exact ⟨.inl ⟨by omega, h1⟩, h3⟩
    · obtain ⟨s, hs, h⟩ := (nz_iff _).1 h
      rw [occ_and, Bool.and_eq_true, hbb 3 s hs, hsla s hs] at h
      obtain ⟨⟨h1, h2, h3⟩, hq⟩ := h
      refine ⟨s, hs, (hhit s 4 hs (by omega) (by omega) (by omega)).2 ⟨h2, ?_⟩⟩
      rw [hitK_line g 4 (by omega)]
      exact ⟨.inr ⟨by omega, h1⟩, h3⟩
    · obtain ⟨s, hs, h⟩ := (nz_iff _).1 h
      rw [occ_and, Bool.and_eq_true, hbb 4 s hs, kn_bit s k hs hk] at h
      obtain ⟨h1, hq⟩ := h
      refine ⟨s, hs, (hhit s 5 hs (by omega) (by omega) (by omega)).2 ⟨?_, ?_⟩⟩
      · intro e; subst e; simp [fD, rD] at h1
      · unfold hitK; simpa using h1
    · obtain ⟨s, hs, hq, hf, hr⟩ := h
      refine ⟨s, hs, (hhit s 6 hs (by omega) (by omega) (by omega)).2 ⟨?_, ?_⟩⟩
      · intro e; subst e; simp [fD] at hf
      · have hff := (sq_one (fD_range s k).1 (fD_range s k).2).2 hf
        unfold hitK
        rw [hup s hs hq]
        simp [hff, hr]
    · obtain ⟨s, hs, h⟩ := (nz_iff _).1 h
      rw [occ_and, Bool.and_eq_true, show 6 * b = 6 * b + 0 from rfl, hbb 0 s hs, kg_bit s k hs hk] at h
      obtain ⟨h1, hq⟩ := h
      simp only [Bool.and_eq_true, bne_iff_ne, ne_eq, decide_eq_true_eq] at h1
      refine ⟨s, hs, (hhit s 1 hs (by omega) (by omega) (by omega)).2 ⟨h1.1, ?_⟩⟩
      unfold hitK
      simp [h1.2.1, h1.2.2]
  · rintro ⟨j, hj, h⟩
    obtain ⟨m, h1, h6, he⟩ := hkind j hj h
    obtain ⟨hne, hit⟩ := (hhit j m hj h1 h6 he).1 h
    have hr : 6 * (b : Int) + 1 ≤ g j ∧ g j ≤ 6 * (b : Int) + 6 := by omega
    (have : m = 1 ∨ m = 2 ∨ m = 3 ∨ m = 4 ∨ m = 5 ∨ m = 6 := (by omega))
    rcases this with rfl | rfl | rfl | rfl | rfl | rfl
    · unfold hitK at hit
      simp only [if_pos, Bool.and_eq_true, decide_eq_true_eq] at hit
      refine ⟨hnear j hj hr ((hadj j hj hne hit.1 hit.2).elim .inl fun h => .inr (.inl h)), .inr (.inr (.inr (.inr (.inr ?_))))⟩
      rw [nz_iff]
      refine ⟨j, hj, ?_⟩
      rw [occ_and, Bool.and_eq_true, show 6 * b = 6 * b + 0 from rfl, hbb 0 j hj, kg_bit j k hj hk]
      exact ⟨by simp [hne, hit.1, hit.2], by omega⟩
    · rw [hitK_line g 2 (by omega)] at hit
      obtain ⟨h2, h3⟩ := hit
      have hDH : occ (diaOf O k).toNat j = true ∨ occ (hvOf O k).toNat j = true := by
        rcases h2 with ⟨_, h2⟩ | ⟨_, h2⟩
        · exact .inr ((hstr j hj).2 ⟨h2, hne, h3⟩)
        · exact .inl ((hsla j hj).2 ⟨h2, hne, h3⟩)
      refine ⟨hnear j hj hr (hDH.elim .inl fun h => .inr (.inl h)), .inl ?_⟩
      rw [nz_iff]
      refine ⟨j, hj, ?_⟩
      rw [occ_and, occ_or, Bool.and_eq_true, Bool.or_eq_true, hbb 1 j hj]
      exact ⟨hDH, by omega⟩
    · rw [hitK_line g 3 (by omega)] at hit
      obtain ⟨h2, h3⟩ := hit
      have hH : occ (hvOf O k).toNat j = true := by
        rcases h2 with ⟨_, h2⟩ | ⟨h2, _⟩
        · exact (hstr j hj).2 ⟨h2, hne, h3⟩
        · exact absurd rfl h2
      refine ⟨hnear j hj hr (.inr (.inl hH)), .inr (.inl ?_)⟩
      rw [nz_iff]
      refine ⟨j, hj, ?_⟩
      rw [occ_and, Bool.and_eq_true, hbb 2 j hj]
      exact ⟨hH, by omega⟩
    · rw [hitK_line g 4 (by omega)] at hit
      obtain ⟨h2, h3⟩ := hit
      have hD : occ (diaOf O k).toNat j = true := by
        rcases h2 with ⟨h2, _⟩ | ⟨_, h2⟩
        · exact absurd rfl h2
        · exact (hsla j hj).2 ⟨h2, hne, h3⟩
      refine ⟨hnear j hj hr (.inl hD), .inr (.inr (.inl ?_))⟩
      rw [nz_iff]
      refine ⟨j, hj, ?_⟩
      rw [occ_and, Bool.and_eq_true, hbb 3 j hj]
      exact ⟨hD, by omega⟩
    · unfold hitK at hit
      have hN : occ (knT k).toNat j = true := by rw [kn_bit j k hj hk]; simpa using hit
      refine ⟨hnear j hj hr (.inr (.inr hN)), .inr (.inr (.inr (.inl ?_)))⟩
      rw [nz_iff]
      refine ⟨j, hj, ?_⟩
      rw [occ_and, Bool.and_eq_true, hbb 4 j hj]
      exact ⟨hN, by omega⟩
    · unfold hitK at hit
      rw [hup j hj he] at hit
      simp only [show ¬ ((6 : Int) = 1) by decide, show ¬ ((6 : Int) = 5) by decide, if_false, if_true, Bool.and_eq_true, beq_iff_eq] at hit
      have hf := (sq_one (fD_range j k).1 (fD_range j k).2).1 hit.1
      have hrr : rD j k * rD j k ≤ 1 := by rw [hit.2]; rcases hb with rfl | rfl <;> decide
      exact ⟨hnear j hj hr ((hadj j hj hne (by omega) hrr).elim .inl fun h => .inr (.inl h)), .inr (.inr (.inr (.inr (.inl ⟨j, hj, by omega, hf, hit.2⟩))))⟩
end Go.Proofs.YthdbgjhonnogpaaDoor

/- Where a piece may go, in plain Lean: the program's bits are the rules' squares. -/
import Derived.Test.YthdbgjhonnogpaaDoorCkR
import Derived.Test.YthdbgjhonnogpaaDoorStB
import Derived.Test.YthdbgjhonnogpaaDoorBpB
namespace Go.Proofs.YthdbgjhonnogpaaDoor
open Plain
set_option maxHeartbeats 1000000
set_option linter.unusedVariables false
set_option linter.unusedSimpArgs false

theorem bv_ext_occ (a b : BitVec 64) (h : ∀ t, t < 64 → occ a.toNat t = occ b.toNat t) : a = b := by
  apply BitVec.eq_of_getLsbD_eq
  intro i hi
  have h1 := h (63 - i) (by omega)
  have e : 63 - (63 - i) = i := by omega
  rw [occ_lsb, occ_lsb, e] at h1
  exact h1
theorem orB_toNatP (l : List Nat) : (orB l).toNat = orBits l := by rw [orB, BitVec.toNat_ofNat, Nat.mod_eq_of_lt (orBits_lt l)]
theorem orB_app (a b : List Nat) : orB (a ++ b) = orB a ||| orB b := by
  apply BitVec.eq_of_toNat_eq
  rw [BitVec.toNat_or, orB_toNatP, orB_toNatP, orB_toNatP, orBits_append]
theorem hv_orB (o : BitVec 64) (s : Nat) (hs : s < 64) : hvOf o s = orB (rookSees (occ o.toNat) s) := by
  apply BitVec.eq_of_toNat_eq
  have e : (hvOf o s).toNat = hv o.toNat s := by
    rw [hvOf, hv, BitVec.toNat_or, linB_toNat, linB_toNat, bitB_toNatP, tab_toNatP (by decide), tab_toNatP (by decide)]
  rw [e, hv_is _ _ hs, orB_toNatP]
theorem dia_orB (o : BitVec 64) (s : Nat) (hs : s < 64) : diaOf o s = orB (bishopSees (occ o.toNat) s) := by
  apply BitVec.eq_of_toNat_eq
  have e : (diaOf o s).toNat = dia o.toNat s := by
    rw [diaOf, dia, BitVec.toNat_or, linB_toNat, linB_toNat, bitB_toNatP, tab_toNatP (by decide), tab_toNatP (by decide)]
  rw [e, dia_is _ _ hs, orB_toNatP]
theorem ups_congr {f f' : Nat → Bool} : ∀ (l : List Nat), (∀ t ∈ l, f t = f' t) → upTo f l = upTo f' l
  | [], _ => by simp [upTo]
  | s :: l, h => by
    have ih := ups_congr l (fun t ht => h t (List.mem_cons_of_mem _ ht))
    simp only [upTo, ih, h s (by simp)]
theorem ray_mem {s : Nat} (hs : s < 64) (d : Int × Int) (hd : d ∈ [((0 : Int), (1 : Int)), (1, 0), (0, -1), (-1, 0), (1, 1), (1, -1), (-1, -1), (-1, 1)]) : ∀ t ∈ ray s d.1 d.2, t < 64 ∧ t ≠ s := by
  have hr := allBelow_of rays_ok s hs
  simp only [raysOk, List.all_eq_true] at hr
  intro t ht
  have := hr d hd t ht
  simpa using this
theorem rook_congr {f f' : Nat → Bool} {s : Nat} (hs : s < 64) (h : ∀ t, t < 64 → t ≠ s → f t = f' t) : rookSees f s = rookSees f' s := by
  have hw : ∀ d ∈ [((0 : Int), (1 : Int)), (1, 0), (0, -1), (-1, 0), (1, 1), (1, -1), (-1, -1), (-1, 1)], upTo f (ray s d.1 d.2) = upTo f' (ray s d.1 d.2) := fun d hd => ups_congr _ fun t ht => h t (ray_mem hs d hd t ht).1 (ray_mem hs d hd t ht).2
  unfold rookSees
  rw [hw (0, 1) (by simp), hw (1, 0) (by simp), hw (0, -1) (by simp), hw (-1, 0) (by simp)]
theorem bishop_congr {f f' : Nat → Bool} {s : Nat} (hs : s < 64) (h : ∀ t, t < 64 → t ≠ s → f t = f' t) : bishopSees f s = bishopSees f' s := by
  have hw : ∀ d ∈ [((0 : Int), (1 : Int)), (1, 0), (0, -1), (-1, 0), (1, 1), (1, -1), (-1, -1), (-1, 1)], upTo f (ray s d.1 d.2) = upTo f' (ray s d.1 d.2) := fun d hd => ups_congr _ fun t ht => h t (ray_mem hs d hd t ht).1 (ray_mem hs d hd t ht).2
  unfold bishopSees
  rw [hw (1, 1) (by simp), hw (1, -1) (by simp), hw (-1, -1) (by simp), hw (-1, 1) (by simp)]
theorem reach_rook (f : Nat → Bool) (s : Nat) : reachL 3 f s = rookSees f s := by
  unfold reachL
  rw [show waysL 3 = straightL from rfl]
  simp [straightL, stepL, farL, rookSees]
theorem reach_bishop (f : Nat → Bool) (s : Nat) : reachL 4 f s = bishopSees f s := by
  unfold reachL
  rw [show waysL 4 = slantingL from rfl]
  simp [slantingL, stepL, farL, bishopSees]
theorem reach_queen (f : Nat → Bool) (s : Nat) : reachL 2 f s = rookSees f s ++ bishopSees f s := by
  unfold reachL
  rw [show waysL 2 = straightL ++ slantingL from rfl]
  simp [straightL, slantingL, stepL, farL, rookSees, bishopSees]
theorem king_ok : allBelow 64 (fun s => orBits (reachL 1 (fun _ => false) s) == kings.getD s 0) = true := by decide +kernel
theorem knight_ok : allBelow 64 (fun s => orBits (reachL 5 (fun _ => false) s) == knights.getD s 0) = true := by decide +kernel
theorem reach_king (f : Nat → Bool) (s : Nat) (hs : s < 64) : orB (reachL 1 f s) = kgT s := by
  have e : reachL 1 f s = reachL 1 (fun _ => false) s := rfl
  apply BitVec.eq_of_toNat_eq
  rw [e, orB_toNatP, kgT, tab_toNatP (by decide)]
  exact eq_of_beq (allBelow_of king_ok s hs)
theorem reach_knight (f : Nat → Bool) (s : Nat) (hs : s < 64) : orB (reachL 5 f s) = knT s := by
  have e : reachL 5 f s = reachL 5 (fun _ => false) s := rfl
  apply BitVec.eq_of_toNat_eq
  rw [e, orB_toNatP, knT, tab_toNatP (by decide)]
  exact eq_of_beq (allBelow_of knight_ok s hs)
theorem gput_at (g : Nat → Int) (s : Nat) (x : Int) : gput g s x s = x := by simp [gput]
theorem gput_ne (g : Nat → Int) {s i : Nat} (x : Int) (h : i ≠ s) : gput g s x i = g i := by simp [gput, h]
theorem reach_poss (g : Nat → Int) (hg : ∀ i, i < 64 → 0 ≤ g i ∧ g i ≤ 12) (c : Nat) (hc : c ≤ 1) (k : Int) (hk : 1 ≤ k ∧ k ≤ 5) (s : Nat) (hs : s < 64) :
    orB (reachL (kindOf (gput g s (k + 6 * (c : Int)) s)) (takenF (gput g s (k + 6 * (c : Int)))) s) = possOf g c k s := by
  have e1 : kindOf (gput g s (k + 6 * (c : Int)) s) = k := by rw [gput_at]; unfold kindOf; split <;> omega
  rw [e1]
  have hf : ∀ t, t < 64 → t ≠ s → takenF (gput g s (k + 6 * (c : Int))) t = occ (~~~(fullOf (bbsOf g) 14)).toNat t := fun t ht hne => by
    rw [full_bit g hg t ht]; unfold takenF; rw [gput_ne g _ hne]
  unfold possOf possB
  (have : k = 1 ∨ k = 2 ∨ k = 3 ∨ k = 4 ∨ k = 5 := (by omega))
  rcases this with rfl | rfl | rfl | rfl | rfl
  · rw [if_pos rfl, reach_king _ s hs]
  · rw [if_neg (by decide), if_pos rfl, reach_queen, orB_app, rook_congr hs hf, bishop_congr hs hf, hv_orB _ s hs, dia_orB _ s hs, BitVec.or_comm]
  · rw [if_neg (by decide), if_neg (by decide), if_pos rfl, reach_rook, rook_congr hs hf, hv_orB _ s hs]
  · rw [if_neg (by decide), if_neg (by decide), if_neg (by decide), if_pos rfl, reach_bishop, bishop_congr hs hf, dia_orB _ s hs]
  · rw [if_neg (by decide), if_neg (by decide), if_neg (by decide), if_neg (by decide), if_pos rfl, reach_knight _ s hs]
/-! Pawns. -/
theorem occ_shr (X : BitVec 64) (n t : Nat) (ht : t < 64) : occ (X >>> n).toNat t = (decide (n ≤ t) && occ X.toNat (t - n)) := by
  rw [occ_lsb, occ_lsb, BitVec.getLsbD_ushiftRight]
  by_cases h : n ≤ t
  · rw [decide_eq_true h, Bool.true_and, show 63 - (t - n) = n + (63 - t) by omega]
  · rw [decide_eq_false h, Bool.false_and]
    exact BitVec.getLsbD_of_ge _ _ (by omega)
theorem occ_shl (X : BitVec 64) (n t : Nat) (ht : t < 64) : occ (X <<< n).toNat t = (decide (t + n < 64) && occ X.toNat (t + n)) := by
  rw [occ_lsb, occ_lsb, BitVec.getLsbD_shiftLeft]
  by_cases h : t + n < 64
  · rw [decide_eq_true h, Bool.true_and, decide_eq_true (show 63 - t < 64 by omega), decide_eq_false (show ¬ 63 - t < n by omega), show 63 - (t + n) = 63 - t - n by omega]
    simp
  · rw [decide_eq_false h, Bool.false_and, decide_eq_true (show 63 - t < n by omega)]
    simp
theorem oH (t : Nat) (ht : t < 64) : occ (18374403900871474942#64).toNat t = decide (t % 8 ≠ 7) := by
  rw [occ_lsb, mH _ (by omega)]; congr 1; apply propext; omega
theorem oA (t : Nat) (ht : t < 64) : occ (9187201950435737471#64).toNat t = decide (t % 8 ≠ 0) := by
  rw [occ_lsb, mA _ (by omega)]; congr 1; apply propext; omega
theorem o1 (t : Nat) (ht : t < 64) : occ (72057594037927935#64).toNat t = decide (8 ≤ t) := by
  rw [occ_lsb, m1 _ (by omega)]; congr 1; apply propext; omega
theorem o8 (t : Nat) (ht : t < 64) : occ (18446744073709551360#64).toNat t = decide (t < 56) := by
  rw [occ_lsb, m8 _ (by omega)]; congr 1; apply propext; omega
theorem mask3 : allBelow 64 (fun t => occ (280375465082880#64).toNat t == decide (t / 8 = 2)) = true := by decide +kernel
theorem mask6 : allBelow 64 (fun t => occ (16711680#64).toNat t == decide (t / 8 = 5)) = true := by decide +kernel
theorem o3 (t : Nat) (h : t < 64) : occ (280375465082880#64).toNat t = decide (t / 8 = 2) := eq_of_beq (allBelow_of mask3 t h)
theorem o6 (t : Nat) (h : t < 64) : occ (16711680#64).toNat t = decide (t / 8 = 5) := eq_of_beq (allBelow_of mask6 t h)
theorem up_iff (s : Nat) (hs : s < 64) (E S P : BitVec 64) (t : Nat) (ht : t < 64) : occ (pawnUp (bitB s) E S P).toNat t = true ↔
    (((t = s + 9 ∧ s % 8 ≠ 7) ∨ (t = s + 7 ∧ s % 8 ≠ 0)) ∧ (occ S.toNat t = true ∨ occ P.toNat t = true)) ∨ (t = s + 8 ∧ occ E.toNat t = true) ∨ (t = s + 16 ∧ occ E.toNat (s + 8) = true ∧ (s + 8) / 8 = 2 ∧ occ E.toNat t = true) := by
  unfold pawnUp
  simp only [occ_or, occ_and, occ_shr _ _ t ht, Bool.or_eq_true, Bool.and_eq_true, decide_eq_true_eq]
  constructor
  · rintro (((⟨⟨h9, ⟨hb, hH⟩, h8⟩, hS⟩ | ⟨⟨h7, ⟨hb, hA⟩, h8⟩, hS⟩) | ⟨⟨h8, hb, h5⟩, hE⟩) | ⟨⟨h8, ⟨h2, hE1⟩, h3⟩, hE⟩)
    · rw [bitB_bit s _ hs (by omega), decide_eq_true_eq] at hb
      rw [oH _ (by omega), decide_eq_true_eq] at hH
      exact .inl ⟨.inl ⟨by omega, by omega⟩, hS⟩
    · rw [bitB_bit s _ hs (by omega), decide_eq_true_eq] at hb
      rw [oA _ (by omega), decide_eq_true_eq] at hA
      exact .inl ⟨.inr ⟨by omega, by omega⟩, hS⟩
    · rw [bitB_bit s _ hs (by omega), decide_eq_true_eq] at hb
      exact .inr (.inl ⟨by omega, hE⟩)
    · rw [occ_shr _ _ _ (by omega), occ_and, Bool.and_eq_true, Bool.and_eq_true, decide_eq_true_eq, bitB_bit s _ hs (by omega), decide_eq_true_eq] at h2
      rw [o3 _ (by omega), decide_eq_true_eq] at h3
      obtain ⟨h4, h5, h6⟩ := h2
      have e : t - 8 = s + 8 := by omega
      rw [e] at hE1 h3
      exact .inr (.inr ⟨by omega, hE1, h3, hE⟩)
  · rintro (⟨⟨h1, h2⟩ | ⟨h1, h2⟩, hS⟩ | ⟨h1, hE⟩ | ⟨h1, hE1, h2, hE⟩)
    · refine .inl (.inl (.inl ⟨⟨by omega, ⟨?_, ?_⟩, ?_⟩, hS⟩))
      · rw [bitB_bit s _ hs (by omega), decide_eq_true_eq]; omega
      · rw [oH _ (by omega), decide_eq_true_eq]; omega
      · rw [o8 _ (by omega), decide_eq_true_eq]; omega
    · refine .inl (.inl (.inr ⟨⟨by omega, ⟨?_, ?_⟩, ?_⟩, hS⟩))
      · rw [bitB_bit s _ hs (by omega), decide_eq_true_eq]; omega
      · rw [oA _ (by omega), decide_eq_true_eq]; omega
      · rw [o8 _ (by omega), decide_eq_true_eq]; omega
    · refine .inl (.inr ⟨⟨by omega, ?_, ?_⟩, hE⟩)
      · rw [bitB_bit s _ hs (by omega), decide_eq_true_eq]; omega
      · rw [o8 _ (by omega), decide_eq_true_eq]; omega
    · have e : t - 8 = s + 8 := by omega
      refine .inr ⟨⟨by omega, ⟨?_, ?_⟩, ?_⟩, hE⟩
      · rw [e, occ_shr _ _ _ (by omega), occ_and, Bool.and_eq_true, Bool.and_eq_true, decide_eq_true_eq, bitB_bit s _ hs (by omega), decide_eq_true_eq, o8 _ (by omega), decide_eq_true_eq]
        exact ⟨by omega, by omega, by omega⟩
      · rw [e]; exact hE1
      · rw [e, o3 _ (by omega), decide_eq_true_eq]; exact h2
theorem dn_iff (s : Nat) (hs : s < 64) (E S P : BitVec 64) (t : Nat) (ht : t < 64) : occ (pawnDn (bitB s) E S P).toNat t = true ↔
    (((t + 7 = s ∧ s % 8 ≠ 7) ∨ (t + 9 = s ∧ s % 8 ≠ 0)) ∧ (occ S.toNat t = true ∨ occ P.toNat t = true)) ∨ (t + 8 = s ∧ occ E.toNat t = true) ∨ (t + 16 = s ∧ occ E.toNat (s - 8) = true ∧ (s - 8) / 8 = 5 ∧ occ E.toNat t = true) := by
  unfold pawnDn
  simp only [occ_or, occ_and, occ_shl _ _ t ht, Bool.or_eq_true, Bool.and_eq_true, decide_eq_true_eq]
  constructor
  · rintro (((⟨⟨h9, ⟨hb, hH⟩, h8⟩, hS⟩ | ⟨⟨h7, ⟨hb, hA⟩, h8⟩, hS⟩) | ⟨⟨h8, hb, h5⟩, hE⟩) | ⟨⟨h8, ⟨h2, hE1⟩, h3⟩, hE⟩)
    · rw [bitB_bit s _ hs (by omega), decide_eq_true_eq] at hb
      rw [oH _ (by omega), decide_eq_true_eq] at hH
      exact .inl ⟨.inl ⟨by omega, by omega⟩, hS⟩
    · rw [bitB_bit s _ hs (by omega), decide_eq_true_eq] at hb
      rw [oA _ (by omega), decide_eq_true_eq] at hA
      exact .inl ⟨.inr ⟨by omega, by omega⟩, hS⟩
    · rw [bitB_bit s _ hs (by omega), decide_eq_true_eq] at hb
      exact .inr (.inl ⟨by omega, hE⟩)
    · rw [occ_shl _ _ _ (by omega), occ_and, Bool.and_eq_true, Bool.and_eq_true, decide_eq_true_eq] at h2
      obtain ⟨h4, h5, h6⟩ := h2
      rw [bitB_bit s _ hs (by omega), decide_eq_true_eq] at h5
      rw [o6 _ (by omega), decide_eq_true_eq] at h3
      have e : t + 8 = s - 8 := by omega
      rw [e] at hE1 h3
      exact .inr (.inr ⟨by omega, hE1, h3, hE⟩)
  · rintro (⟨⟨h1, h2⟩ | ⟨h1, h2⟩, hS⟩ | ⟨h1, hE⟩ | ⟨h1, hE1, h2, hE⟩)
    · refine .inl (.inl (.inl ⟨⟨by omega, ⟨?_, ?_⟩, ?_⟩, hS⟩))
      · rw [bitB_bit s _ hs (by omega), decide_eq_true_eq]; omega
      · rw [oH _ (by omega), decide_eq_true_eq]; omega
      · rw [o1 _ (by omega), decide_eq_true_eq]; omega
    · refine .inl (.inl (.inr ⟨⟨by omega, ⟨?_, ?_⟩, ?_⟩, hS⟩))
      · rw [bitB_bit s _ hs (by omega), decide_eq_true_eq]; omega
      · rw [oA _ (by omega), decide_eq_true_eq]; omega
      · rw [o1 _ (by omega), decide_eq_true_eq]; omega
    · refine .inl (.inr ⟨⟨by omega, ?_, ?_⟩, hE⟩)
      · rw [bitB_bit s _ hs (by omega), decide_eq_true_eq]; omega
      · rw [o1 _ (by omega), decide_eq_true_eq]; omega
    · have e : t + 8 = s - 8 := by omega
      refine .inr ⟨⟨by omega, ⟨?_, ?_⟩, ?_⟩, hE⟩
      · rw [e, occ_shl _ _ _ (by omega), occ_and, Bool.and_eq_true, Bool.and_eq_true, decide_eq_true_eq, bitB_bit s _ hs (by omega), decide_eq_true_eq, o1 _ (by omega), decide_eq_true_eq]
        exact ⟨by omega, by omega, by omega⟩
      · rw [e]; exact hE1
      · rw [e, o6 _ (by omega), decide_eq_true_eq]; exact h2
theorem mem_step (g : Nat → Int) (c : Int) (hc : c = 0 ∨ c = 1) (s : Nat) (hs : s < 64) (h1 : 1 ≤ s / 8) (h6 : s / 8 ≤ 6) (t : Nat) : t ∈ stepA g c (upI c) s ↔
    ((t : Int) = (s : Int) + 8 * upI c ∧ g t = 0) ∨ ((t : Int) = (s : Int) + 16 * upI c ∧ (s : Int) / 8 = 1 + 5 * c ∧ g ((s : Int) + 8 * upI c).toNat = 0 ∧ g t = 0) := by
  have hu : upI c = 1 - 2 * c := rfl
  rw [hu]
  have a1 : atOf ((s : Int) % 8) ((s : Int) / 8 + (1 - 2 * c)) = (s : Int) + 8 * (1 - 2 * c) := by unfold atOf; rw [if_pos (by omega)]; omega
  have a2 : (s : Int) / 8 = 1 + 5 * c → atOf ((s : Int) % 8) ((s : Int) / 8 + 2 * (1 - 2 * c)) = (s : Int) + 16 * (1 - 2 * c) := fun h => by unfold atOf; rw [if_pos (by omega)]; omega
  have hr : 0 ≤ (s : Int) + 8 * (1 - 2 * c) := by omega
  unfold stepA
  rw [a1]
  by_cases hg1 : g ((s : Int) + 8 * (1 - 2 * c)).toNat = 0
  · rw [if_pos ⟨hr, hg1⟩]
    by_cases hq : (s : Int) / 8 = 1 + 5 * c
    · rw [a2 hq]
      have hr2 : 0 ≤ (s : Int) + 16 * (1 - 2 * c) := by omega
      by_cases hg2 : g ((s : Int) + 16 * (1 - 2 * c)).toNat = 0
      · rw [if_pos ⟨by simpa using hq, hg2⟩]
        simp only [List.mem_cons, List.not_mem_nil, or_false]
        constructor
        · rintro (rfl | rfl)
          · exact .inl ⟨by omega, hg1⟩
          · exact .inr ⟨by omega, hq, hg1, hg2⟩
        · rintro (⟨h, _⟩ | ⟨h, _⟩) <;> omega
      · rw [if_neg (fun h => hg2 h.2)]
        simp only [List.mem_cons, List.not_mem_nil, or_false]
        constructor
        · rintro rfl
          exact .inl ⟨by omega, hg1⟩
        · rintro (⟨h, _⟩ | ⟨h, _, _, h4⟩)
          · omega
          · exfalso; apply hg2; rw [← h]; simpa using h4
    · rw [if_neg (fun h => hq (by simpa using h.1))]
      simp only [List.mem_cons, List.not_mem_nil, or_false]
      constructor
      · rintro rfl
        exact .inl ⟨by omega, hg1⟩
      · rintro (⟨h, _⟩ | ⟨_, h, _⟩)
        · omega
        · exact absurd h hq
  · rw [if_neg (fun h => hg1 h.2)]
    simp only [List.not_mem_nil, false_iff]
    rintro (⟨h, h2⟩ | ⟨_, _, h2, _⟩)
    · apply hg1; rw [← h]; simpa using h2
    · exact hg1 h2
theorem mem_hit (c : Int) (hc : c = 0 ∨ c = 1) (s : Nat) (hs : s < 64) (h1 : 1 ≤ s / 8) (h6 : s / 8 ≤ 6) (t : Nat) : t ∈ hitL (upI c) s 2 ↔
    ((t : Int) = (s : Int) + 8 * upI c - 1 ∧ s % 8 ≠ 0) ∨ ((t : Int) = (s : Int) + 8 * upI c + 1 ∧ s % 8 ≠ 7) := by
  have hu : upI c = 1 - 2 * c := rfl
  rw [hu]
  have a0 : hitT (1 - 2 * c) s 0 = if s % 8 ≠ 0 then (s : Int) + 8 * (1 - 2 * c) - 1 else -1 := by
    unfold hitT atOf
    by_cases h : s % 8 ≠ 0
    · rw [if_pos h, if_pos (by omega)]; omega
    · rw [if_neg h, if_neg (by omega)]
  have a1 : hitT (1 - 2 * c) s 1 = if s % 8 ≠ 7 then (s : Int) + 8 * (1 - 2 * c) + 1 else -1 := by
    unfold hitT atOf
    by_cases h : s % 8 ≠ 7
    · rw [if_pos h, if_pos (by omega)]; omega
    · rw [if_neg h, if_neg (by omega)]
  show t ∈ (if hitT (1 - 2 * c) s 1 < 0 then (if hitT (1 - 2 * c) s 0 < 0 then [] else [] ++ [(hitT (1 - 2 * c) s 0).toNat]) else (if hitT (1 - 2 * c) s 0 < 0 then [] else [] ++ [(hitT (1 - 2 * c) s 0).toNat]) ++ [(hitT (1 - 2 * c) s 1).toNat]) ↔ _
  rw [a0, a1]
  by_cases h0 : s % 8 ≠ 0
  · rw [if_pos h0]
    by_cases h7 : s % 8 ≠ 7
    · rw [if_pos h7, if_neg (by omega), if_neg (by omega)]
      simp only [List.nil_append, List.mem_append, List.mem_cons, List.not_mem_nil, or_false]
      omega
    · rw [if_neg h7, if_pos (by omega), if_neg (by omega)]
      simp only [List.nil_append, List.mem_cons, List.not_mem_nil, or_false]
      omega
  · rw [if_neg h0]
    by_cases h7 : s % 8 ≠ 7
    · rw [if_pos h7, if_neg (by omega), if_pos (by omega)]
      simp only [List.nil_append, List.mem_append, List.mem_cons, List.not_mem_nil, or_false]
      omega
    · omega
theorem ep_bit (g : Nat → Int) (h : -1 ≤ g 66 ∧ g 66 < 64) (t : Nat) (ht : t < 64) : occ (epB (g 66)).toNat t = true ↔ (t : Int) = g 66 := by
  unfold epB
  by_cases e : g 66 = -1
  · rw [if_pos e]
    have : occ (0#64).toNat t = false := by simp [occ]
    rw [this]
    constructor
    · intro h; cases h
    · intro h; omega
  · rw [if_neg e, bitB_bit _ _ (by omega) ht, decide_eq_true_eq]
    omega
theorem pawn_poss (g : Nat → Int) (hV : VG g) (c : Nat) (hc : c ≤ 1) (hgc : g 64 = (c : Int)) (s : Nat) (hs : s < 64) (h1 : 1 ≤ s / 8) (h6 : s / 8 ≤ 6) :
    orB (pawnL (gput g s (6 + 6 * (c : Int))) s) = possOf g c 6 s := by
  have hg := hV.board
  have hE : ∀ x, x < 64 → (occ (fullOf (bbsOf g) 14).toNat x = true ↔ g x = 0) := fun x hx => by
    have h := full_bit g hg x hx
    have e : occ (~~~(fullOf (bbsOf g) 14)).toNat x = !occ (fullOf (bbsOf g) 14).toNat x := by
      rw [occ_lsb, occ_lsb, BitVec.getLsbD_not]
      simp
      omega
    rw [e] at h
    cases hb : occ (fullOf (bbsOf g) 14).toNat x <;> rw [hb] at h <;> simp at h <;> simp [h]
  have hep := ep_bit g hV.ep
  have hso : sideOf (gput g s (6 + 6 * (c : Int)) s) = (c : Int) := by rw [gput_at]; unfold sideOf; split <;> omega
  have h66 : gput g s (6 + 6 * (c : Int)) 66 = g 66 := gput_ne g _ (by omega)
  have hcap : ∀ t, t < 64 → t ≠ s → (capB (gput g s (6 + 6 * (c : Int))) (c : Int) t = true ↔ ((g t ≠ 0 ∧ sideOf (g t) ≠ (c : Int)) ∨ (t : Int) = g 66 ∧ (t : Int) / 8 = 5 - 3 * (c : Int))) := fun t ht hne => by
    unfold capB
    rw [gput_ne g _ hne, h66]
    simp only [Bool.or_eq_true, Bool.and_eq_true, bne_iff_ne, ne_eq, beq_iff_eq]
    constructor
    · rintro (h | ⟨⟨_, h⟩, h2⟩)
      · exact .inl h
      · exact .inr ⟨h, h2⟩
    · rintro (h | ⟨h, h2⟩)
      · exact .inl h
      · refine .inr ⟨⟨?_, h⟩, h2⟩
        rcases hV.epok with he | ⟨_, _, _, he⟩
        · omega
        · rw [← h] at he; simpa using he
  have hepr : ∀ t : Nat, (t : Int) = g 66 → (t : Int) / 8 = 5 - 3 * (c : Int) := fun t h => by
    rcases hV.epok with he | ⟨_, _, he, _⟩
    · omega
    · rw [h, ← hgc]; exact he
  apply bv_ext_occ
  intro t ht
  rw [orB_toNatP, orBits_bit _ (fun x hx => by
    unfold pawnL at hx
    rcases List.mem_append.1 hx with h | h
    · exact stepA_lt _ _ _ _ x h
    · exact hitL_lt _ _ _ x (List.mem_filter.1 h).1) t ht]
  unfold pawnL
  rw [hso, Bool.eq_iff_iff, decide_eq_true_eq, List.mem_append, List.mem_filter]
  unfold possOf possB
  rw [if_neg (by decide), if_neg (by decide), if_neg (by decide), if_neg (by decide), if_neg (by decide)]
  have hgp : ∀ x : Nat, x ≠ s → (gput g s (6 + 6 * (c : Int)) x = 0 ↔ g x = 0) := fun x hx => by rw [gput_ne g _ hx]
  (have : c = 0 ∨ c = 1 := (by omega))
  rcases this with rfl | rfl
  · have eU : upI ((0 : Nat) : Int) = 1 := rfl
    rw [mem_step _ ((0 : Nat) : Int) (.inl rfl) s hs h1 h6 t, mem_hit ((0 : Nat) : Int) (.inl rfl) s hs h1 h6 t, eU]
    unfold pawnX
    rw [if_pos (by rfl), up_iff s hs _ _ _ t ht, hep t ht, hE t ht, show fullOf (bbsOf g) 13 = blackOf (bbsOf g) from rfl, black_bit g hg t ht]
    have hgt := hg t ht
    constructor
    · rintro ((⟨e, h⟩ | ⟨e, hq, hh, h⟩) | ⟨hh, hcp⟩)
      · exact .inr (.inl ⟨by omega, (hgp t (by omega)).1 h⟩)
      · rw [show ((s : Int) + 8 * 1).toNat = s + 8 by omega] at hh
        exact .inr (.inr ⟨by omega, (hE (s + 8) (by omega)).2 ((hgp (s + 8) (by omega)).1 hh), by omega, (hgp t (by omega)).1 h⟩)
      · rw [hcap t ht (by omega)] at hcp
        refine .inl ⟨by omega, ?_⟩
        rcases hcp with ⟨a, b⟩ | ⟨a, b⟩
        · left; unfold sideOf at b; split at b <;> omega
        · exact .inr a
    · rintro (⟨hh, hcp⟩ | ⟨e, h⟩ | ⟨e, hE1, h2, h⟩)
      · refine .inr ⟨by omega, ?_⟩
        rw [hcap t ht (by omega)]
        rcases hcp with a | a
        · left; unfold sideOf; split <;> omega
        · exact .inr ⟨a, hepr t a⟩
      · exact .inl (.inl ⟨by omega, (hgp t (by omega)).2 h⟩)
      · refine .inl (.inr ⟨by omega, by omega, ?_, (hgp t (by omega)).2 h⟩)
        rw [show ((s : Int) + 8 * 1).toNat = s + 8 by omega]
        exact (hgp (s + 8) (by omega)).2 ((hE (s + 8) (by omega)).1 hE1)
  · have eU : upI ((1 : Nat) : Int) = -1 := rfl
    rw [mem_step _ ((1 : Nat) : Int) (.inr rfl) s hs h1 h6 t, mem_hit ((1 : Nat) : Int) (.inr rfl) s hs h1 h6 t, eU]
    unfold pawnX
    rw [if_neg (by decide), dn_iff s hs _ _ _ t ht, hep t ht, hE t ht, show fullOf (bbsOf g) 12 = whiteOf (bbsOf g) from rfl, white_bit g hg t ht]
    have hgt := hg t ht
    constructor
    · rintro ((⟨e, h⟩ | ⟨e, hq, hh, h⟩) | ⟨hh, hcp⟩)
      · exact .inr (.inl ⟨by omega, (hgp t (by omega)).1 h⟩)
      · rw [show ((s : Int) + 8 * -1).toNat = s - 8 by omega] at hh
        exact .inr (.inr ⟨by omega, (hE (s - 8) (by omega)).2 ((hgp (s - 8) (by omega)).1 hh), by omega, (hgp t (by omega)).1 h⟩)
      · rw [hcap t ht (by omega)] at hcp
        refine .inl ⟨by omega, ?_⟩
        rcases hcp with ⟨a, b⟩ | ⟨a, b⟩
        · left; unfold sideOf at b; split at b <;> omega
        · exact .inr a
    · rintro (⟨hh, hcp⟩ | ⟨e, h⟩ | ⟨e, hE1, h2, h⟩)
      · refine .inr ⟨by omega, ?_⟩
        rw [hcap t ht (by omega)]
        rcases hcp with a | a
        · left; unfold sideOf; split <;> omega
        · exact .inr ⟨a, hepr t a⟩
      · exact .inl (.inl ⟨by omega, (hgp t (by omega)).2 h⟩)
      · refine .inl (.inr ⟨by omega, by omega, ?_, (hgp t (by omega)).2 h⟩)
        rw [show ((s : Int) + 8 * -1).toNat = s - 8 by omega]
        exact (hgp (s - 8) (by omega)).2 ((hE (s - 8) (by omega)).1 hE1)
end Go.Proofs.YthdbgjhonnogpaaDoor

/- The reference's tokens of a move's text: three forms. -/
import Derived.Test.YtlcdhahnngfjhaaDoorLxM
import Derived.Test.YtlcdhahnngfjhaaDoorLxI
namespace Go.Proofs.YtlcdhahnngfjhaaDoor
open Go.Proofs Go.Shelf Go.Lib Go.ChangeShapes Go.WideShapes Go.ChangeAt Go.RowKit Go.PlainAid
set_option maxHeartbeats 4000000
set_option linter.unusedVariables false
set_option linter.unusedSimpArgs false
theorem tx_idx (L : List UInt8) (i : Nat) (h : i < (tx L).size) : (tx L)[i]'h = L[i]'h := rfl
attribute [local go_sem] tx_list tx_size bt_tx tx_idx

theorem slice_to3 (R : List UInt8) (k : Nat) (hk : k ≤ R.length) (w : World) : (Instr.slice 9 (.string (tx R)) none (some (.int .i64 (k : Int))) none).run Tryd.prog w = .ok (.string (tx (mid R 0 k))) w := by
  have h := slice_mid R 0 k (Nat.zero_le _) hk w
  have e : (Instr.slice 9 (.string (tx R)) none (some (.int .i64 (k : Int))) none).run Tryd.prog w = (Instr.slice 9 (.string (tx R)) (some (.int .i64 ((0 : Nat) : Int))) (some (.int .i64 (k : Int))) none).run Tryd.prog w := rfl
  rw [e]; exact h
def SanP (l : List Tk) (w : World) (e : Ending) (w' : World) : Prop := ∃ v B, e = .returned v ∧ Toks B v l w' ∧ w.heap.size ≤ B ∧ Below w.heap.size w w'
theorem digit_any (c : Nat) (w : World) : Calls Tryd.prog 14 #[.int .u8 (c : Int)] w fun e w' => e = .returned (.bool (isRk c)) ∧ w = w' := by
  unfold isRk
  by_cases a : 49 ≤ c
  · have a1 : decide ((49 : Int) ≤ (c : Int)) = true := decide_eq_true (by omega)
    have a2 : decide ((c : Int) ≥ 49) = true := a1
    rw [decide_eq_true a]
    by_cases b : c ≤ 56
    · have b1 : decide ((c : Int) ≤ 56) = true := decide_eq_true (by omega)
      rw [decide_eq_true b]
      go_enter Tryd.func14, Tryd.ntmps14
      go_wp2
      go_ret
      exact ⟨rfl, rfl⟩
    · have b1 : decide ((c : Int) ≤ 56) = false := decide_eq_false (by omega)
      rw [decide_eq_false b]
      go_enter Tryd.func14, Tryd.ntmps14
      go_wp2
      go_ret
      exact ⟨rfl, rfl⟩
  · have a1 : decide ((49 : Int) ≤ (c : Int)) = false := decide_eq_false (by omega)
    have a2 : decide ((c : Int) ≥ 49) = false := a1
    rw [decide_eq_false a]
    go_enter Tryd.func14, Tryd.ntmps14
    go_wp2
    go_ret
    exact ⟨rfl, rfl⟩
set_option maxRecDepth 100000 in
theorem sanA_any (b0 b1 b2 b3 : UInt8) (h0 : isUp b0.toNat = true) (h1 : isRk b1.toNat = true) (h2 : isFl b2.toNat = true) (h3 : isRk b3.toNat = true) (w : World) :
    Calls Tryd.prog 8 #[.string (tx [b0, b1, b2, b3])] w fun e w' => SanP [⟨false, [b0], 9⟩, ⟨false, [b1], 17⟩, ⟨false, [b2, b3], 10⟩] w e w' := by
  have r0 : 65 ≤ b0.toNat ∧ b0.toNat ≤ 90 := by unfold isUp at h0; simpa using h0
  have r1 : 49 ≤ b1.toNat ∧ b1.toNat ≤ 56 := by unfold isRk at h1; simpa using h1
  have r2 : 97 ≤ b2.toNat ∧ b2.toNat ≤ 104 := by unfold isFl at h2; simpa using h2
  have r3 : 49 ≤ b3.toNat ∧ b3.toNat ≤ 56 := by unfold isRk at h3; simpa using h3
  have m1 : ((b3.toNat : Int) == 43) = false := by rw [beq_eq_false_iff_ne]; omega
  have m2 : ((b3.toNat : Int) == 35) = false := by rw [beq_eq_false_iff_ne]; omega
  have m3 : ((b2.toNat : Int) == 61) = false := by rw [beq_eq_false_iff_ne]; omega
  have m4 : ((b1.toNat : Int) == 120) = false := by rw [beq_eq_false_iff_ne]; omega
  have m5 : decide ((b0.toNat : Int) ≥ 65) = true := decide_eq_true (by omega)
  have m5' : decide ((65 : Int) ≤ (b0.toNat : Int)) = true := decide_eq_true (by omega)
  have m6 : decide ((b0.toNat : Int) ≤ 90) = true := decide_eq_true (by omega)
  have s1 : ∀ wx, (Instr.slice 9 (.string (tx [b0, b1, b2, b3])) none (some (.int .i64 4)) none).run Tryd.prog wx = .ok (.string (tx [b0, b1, b2, b3])) wx := fun wx => slice_to3 [b0, b1, b2, b3] 4 (by simp) wx
  have s2 : ∀ wx, (Instr.slice 9 (.string (tx [b0, b1, b2, b3])) (some (.int .i64 2)) (some (.int .i64 4)) none).run Tryd.prog wx = .ok (.string (tx [b2, b3])) wx := fun wx => slice_mid [b0, b1, b2, b3] 2 4 (by omega) (by simp) wx
  have s3 : ∀ wx, (Instr.slice 9 (.string (tx [b0, b1, b2, b3])) none (some (.int .i64 1)) none).run Tryd.prog wx = .ok (.string (tx [b0])) wx := fun wx => slice_to3 [b0, b1, b2, b3] 1 (by simp) wx
  have s4 : ∀ wx, (Instr.slice 9 (.string (tx [b0, b1, b2, b3])) (some (.int .i64 1)) (some (.int .i64 2)) none).run Tryd.prog wx = .ok (.string (tx [b1])) wx := fun wx => slice_mid [b0, b1, b2, b3] 1 2 (by omega) (by simp) wx
  have hdg := Lib.hid (fun w => digit_any b1.toNat w)
  rw [h1] at hdg
  clear h0 h1 h2 h3 r0 r1 r2 r3
  go_enter Tryd.func8, Tryd.ntmps8
  go_upto_region 4 with (fail)
  go_cut [21] from 10 to 21 (fun x wx => x = .bool false ∧ wx = w)
  case first =>
    go_wp2_with (fail)
    all_goals first
      | (go_meet; exact ⟨congrArg Value.bool m2, rfl⟩)
      | (go_meet; exact ⟨congrArg Value.bool (show (((b3.toNat : Int) == 43) || ((b3.toNat : Int) == 35)) = false by rw [m1, m2]; rfl), rfl⟩)
      | (rename_i h; exact absurd (show (b3.toNat : Int) = 43 from h) (by have := m1; rw [beq_eq_false_iff_ne] at this; exact this))
  case rest =>
  obtain ⟨rfl, hwc⟩ := hcut
  subst hwc
  go_upto_region 14 with (fail)
  go_cut [60] from 52 to 60 (fun x wx => x = .bool false ∧ wx = wc)
  case first =>
    go_wp2_with (fail)
    go_meet
    exact ⟨congrArg Value.bool m3, rfl⟩
  case rest =>
  obtain ⟨rfl, hwd⟩ := hcut
  subst hwd
  obtain ⟨w0, hw0⟩ : ∃ w0, w0 = wc := ⟨_, rfl⟩
  subst hw0
  go_upto_region 17 with (fail)
  clear m1 m2 m3 s1
  go_upto_region 18 with (first
    | (go_at_call 13; refine (lexOf_any _ _ _).mono ?_; rintro e w1 ⟨rfl, hb1⟩)
    | (at_builtin; refine wpList_cat3 rfl _ _ rfl w0.heap.size (.slice (some ⟨w1.heap.size, 0, none⟩) 1 1) [⟨false, [b2, b3], 10⟩] rfl (toks_lit1 w1 hb1.size 10 [b2, b3]) (by have := hb1.size; simp; omega) 0 (.slice none 0 0) [] rfl (toks_nil _ _) (by simp) ?_; intro v2 w2 hT2 hB2))
  have hBa : Below w0.heap.size w0 w2 := (hb1.alloc hb1.size _).trans hB2
  have hT2' : Toks w0.heap.size v2 [⟨false, [b2, b3], 10⟩] w2 := hT2
  replace hT2' := Lib.hid hT2'
  clear hT2 hB2 hb1 s2
  go_upto_region 19 with (fail)
  go_cut [92] from 84 to 92 (fun x wx => x = .bool false ∧ wx = w2)
  case first =>
    go_wp2_with (fail)
    go_meet
    exact ⟨congrArg Value.bool m4, rfl⟩
  case rest =>
  obtain ⟨rfl, hwe⟩ := hcut
  subst hwe
  obtain ⟨w3, hw3⟩ : ∃ w3, w3 = wc := ⟨_, rfl⟩
  subst hw3
  go_upto_region 23 with (fail)
  go_cut [110] from 99 to 110 (fun x wx => x = .bool true ∧ wx = w3)
  case first =>
    go_wp2_with (fail)
    all_goals first
      | (go_meet; exact ⟨congrArg Value.bool m6, rfl⟩)
      | (go_meet; exact ⟨congrArg Value.bool (show ((decide ((b0.toNat : Int) ≥ 65)) && (decide ((b0.toNat : Int) ≤ 90))) = true by rw [m5, m6]; rfl), rfl⟩)
      | (rename_i h; exact absurd (show (b0.toNat : Int) < 65 from h) (by have := of_decide_eq_true m5'; omega))
  case rest =>
  obtain ⟨rfl, hwf⟩ := hcut
  subst hwf
  obtain ⟨w4, hw4⟩ : ∃ w4, w4 = wc := ⟨_, rfl⟩
  subst hw4
  clear m4 m5 m5' m6
  go_upto_region 25 with (first
    | (go_at_call 13; refine (lexOf_any _ _ _).mono ?_; rintro e w5 ⟨rfl, hb5⟩)
    | (at_builtin; refine wpList_cat3 rfl _ _ rfl w5.heap.size (.slice none 0 0) [] rfl (toks_nil _ _) (by simp) w5.heap.size (.slice (some ⟨w5.heap.size, 0, none⟩) 1 1) [⟨false, [b0], 9⟩] rfl (toks_lit1 w5 (Nat.le_refl _) 9 [b0]) (by simp) ?_; intro v6 w6 hT6 hB6))
  have hB46 : Below w4.heap.size w4 w6 := hb5.trans ((((Below.refl w5.heap.size w5).alloc (Nat.le_refl _) _).trans hB6).mono hb5.size)
  have hs56 := hB6.size
  have hs45 := hb5.size
  have hq6 : w5.heap.size ≤ w6.heap.size := by simp at hs56; omega
  replace hT6 := Lib.hid hT6
  clear hb5 hB6 s3 hs56
  go_upto_region 28 with (fail)
  go_cut [130] from 131 to 140 (fun x wx => x = .bool true ∧ wx = w6)
  case first =>
    go_wp2_with (go_at_call 14; refine (hdg.out _).mono ?_; rintro e w' ⟨rfl, rfl⟩)
    go_meet
    exact ⟨rfl, rfl⟩
  case rest =>
  obtain ⟨rfl, hwg⟩ := hcut
  subst hwg
  obtain ⟨w7, hw7⟩ : ∃ w7, w7 = wc := ⟨_, rfl⟩
  subst hw7
  go_upto_region 32 with (first
    | (go_at_call 13; refine (lexOf_any _ _ _).mono ?_; rintro e w8 ⟨rfl, hb8⟩)
    | (at_builtin; refine wpList_cat3 rfl _ _ rfl w5.heap.size v6 ([] ++ [⟨false, [b0], 9⟩]) rfl ((hT6.out.below hb8).below ((Below.refl w8.heap.size w8).alloc (Nat.le_refl _) _)) (by have := hb8.size; simp; omega) w8.heap.size (.slice (some ⟨w8.heap.size, 0, none⟩) 1 1) [⟨false, [b1], 17⟩] rfl (toks_lit1 w8 (Nat.le_refl _) 17 [b1]) (by simp) ?_; intro v9 w9 hT9 hB9))
  have hB89 : Below w4.heap.size w7 w9 := (hb8.mono hB46.size).trans (((Below.refl w8.heap.size w8).alloc (Nat.le_refl _) _).mono (by have := hB46.size; have := hb8.size; omega) |>.trans (hB9.mono hs45))
  have hB49 := hB46.trans hB89
  have hT2w : Toks w0.heap.size v2 [⟨false, [b2, b3], 10⟩] w9 := hT2'.out.below hB49
  have hq9 : w5.heap.size ≤ w9.heap.size := Nat.le_trans hq6 hB89.size
  have hB09 : Below w0.heap.size w0 w9 := hBa.trans (hB49.mono hBa.size)
  replace hT9 := Lib.hid hT9
  clear hb8 hB9 hB89 hB46 hT6 s4
  go_wp2_with (at_builtin; refine wpList_cat3 rfl _ _ rfl w5.heap.size v9 _ rfl hT9.out hq9 w0.heap.size v2 [⟨false, [b2, b3], 10⟩] rfl hT2w (by simp) ?_; intro va wa hTa hBa2)
  go_ret
  exact ⟨va, w5.heap.size, rfl, hTa, Nat.le_trans hBa.size hs45, hB09.trans (hBa2.mono (Nat.le_trans hBa.size hs45))⟩
set_option maxRecDepth 100000 in
theorem sanC_any (b0 b1 b2 : UInt8) (h0 : isUp b0.toNat = true) (h1 : isFl b1.toNat = true) (h2 : isRk b2.toNat = true) (w : World) :
    Calls Tryd.prog 8 #[.string (tx [b0, b1, b2])] w fun e w' => SanP [⟨false, [b0], 9⟩, ⟨false, [b1, b2], 10⟩] w e w' := by
  have r0 : 65 ≤ b0.toNat ∧ b0.toNat ≤ 90 := by unfold isUp at h0; simpa using h0
  have r1 : 97 ≤ b1.toNat ∧ b1.toNat ≤ 104 := by unfold isFl at h1; simpa using h1
  have r2 : 49 ≤ b2.toNat ∧ b2.toNat ≤ 56 := by unfold isRk at h2; simpa using h2
  have m1 : ((b2.toNat : Int) == 43) = false := by rw [beq_eq_false_iff_ne]; omega
  have m2 : ((b2.toNat : Int) == 35) = false := by rw [beq_eq_false_iff_ne]; omega
  have m3 : ((b1.toNat : Int) == 61) = false := by rw [beq_eq_false_iff_ne]; omega
  have m4 : ((b0.toNat : Int) == 120) = false := by rw [beq_eq_false_iff_ne]; omega
  have m5 : decide ((b0.toNat : Int) ≥ 65) = true := decide_eq_true (by omega)
  have m5' : decide ((65 : Int) ≤ (b0.toNat : Int)) = true := decide_eq_true (by omega)
  have m6 : decide ((b0.toNat : Int) ≤ 90) = true := decide_eq_true (by omega)
  have hne : ¬ (b1 = 45) := by intro e; subst e; revert r1; decide
  have hco : (([b0, b1, b2] : List UInt8) == [79, 45, 79]) = false := by rw [beq_eq_false_iff_ne]; intro e; injection e with _ e; injection e with e _; exact hne e
  have s1 : ∀ wx, (Instr.slice 9 (.string (tx [b0, b1, b2])) none (some (.int .i64 3)) none).run Tryd.prog wx = .ok (.string (tx [b0, b1, b2])) wx := fun wx => slice_to3 [b0, b1, b2] 3 (by simp) wx
  have s2 : ∀ wx, (Instr.slice 9 (.string (tx [b0, b1, b2])) (some (.int .i64 1)) (some (.int .i64 3)) none).run Tryd.prog wx = .ok (.string (tx [b1, b2])) wx := fun wx => slice_mid [b0, b1, b2] 1 3 (by omega) (by simp) wx
  have s3 : ∀ wx, (Instr.slice 9 (.string (tx [b0, b1, b2])) none (some (.int .i64 1)) none).run Tryd.prog wx = .ok (.string (tx [b0])) wx := fun wx => slice_to3 [b0, b1, b2] 1 (by simp) wx
  clear h0 h1 h2 r0 r1 r2 hne
  go_enter Tryd.func8, Tryd.ntmps8
  go_upto_region 4 with (fail)
  go_cut [21] from 10 to 21 (fun x wx => x = .bool false ∧ wx = w)
  case first =>
    go_wp2_with (fail)
    all_goals first
      | (go_meet; exact ⟨congrArg Value.bool m2, rfl⟩)
      | (go_meet; exact ⟨congrArg Value.bool (show (((b2.toNat : Int) == 43) || ((b2.toNat : Int) == 35)) = false by rw [m1, m2]; rfl), rfl⟩)
      | (rename_i h; exact absurd (show (b2.toNat : Int) = 43 from h) (by have := m1; rw [beq_eq_false_iff_ne] at this; exact this))
  case rest =>
  obtain ⟨rfl, hwc⟩ := hcut
  subst hwc
  obtain ⟨x0, hx0⟩ : ∃ x0, x0 = wc := ⟨_, rfl⟩
  subst hx0
  go_upto_region 10 with (fail)
  go_cut [39] from 36 to 39 (fun x wx => x = .bool false ∧ wx = x0)
  case first =>
    go_wp2_with (fail)
    go_meet
    first | exact ⟨rfl, rfl⟩ | exact ⟨congrArg Value.bool hco, rfl⟩ | (simp; exact hco) | trace_state
  case rest =>
  obtain ⟨rfl, hwx⟩ := hcut
  subst hwx
  obtain ⟨x1, hx1⟩ : ∃ x1, x1 = wc := ⟨_, rfl⟩
  subst hx1
  go_upto_region 14 with (fail)
  go_cut [60] from 52 to 60 (fun x wx => x = .bool false ∧ wx = x1)
  case first =>
    go_wp2_with (fail)
    go_meet
    exact ⟨congrArg Value.bool m3, rfl⟩
  case rest =>
  obtain ⟨rfl, hwd⟩ := hcut
  subst hwd
  obtain ⟨w0, hw0⟩ : ∃ w0, w0 = wc := ⟨_, rfl⟩
  subst hw0
  go_upto_region 17 with (fail)
  clear m1 m2 m3 s1 hco
  go_upto_region 18 with (first
    | (go_at_call 13; refine (lexOf_any _ _ _).mono ?_; rintro e w1 ⟨rfl, hb1⟩)
    | (at_builtin; refine wpList_cat3 rfl _ _ rfl w0.heap.size (.slice (some ⟨w1.heap.size, 0, none⟩) 1 1) [⟨false, [b1, b2], 10⟩] rfl (toks_lit1 w1 hb1.size 10 [b1, b2]) (by have := hb1.size; simp; omega) 0 (.slice none 0 0) [] rfl (toks_nil _ _) (by simp) ?_; intro v2 w2 hT2 hB2))
  have hBa : Below w0.heap.size w0 w2 := (hb1.alloc hb1.size _).trans hB2
  have hT2' : Toks w0.heap.size v2 [⟨false, [b1, b2], 10⟩] w2 := hT2
  replace hT2' := Lib.hid hT2'
  clear hT2 hB2 hb1 s2
  go_upto_region 19 with (fail)
  go_cut [92] from 84 to 92 (fun x wx => x = .bool false ∧ wx = w2)
  case first =>
    go_wp2_with (fail)
    go_meet
    exact ⟨congrArg Value.bool m4, rfl⟩
  case rest =>
  obtain ⟨rfl, hwe⟩ := hcut
  subst hwe
  obtain ⟨w3, hw3⟩ : ∃ w3, w3 = wc := ⟨_, rfl⟩
  subst hw3
  go_upto_region 23 with (fail)
  go_cut [110] from 99 to 110 (fun x wx => x = .bool true ∧ wx = w3)
  case first =>
    go_wp2_with (fail)
    all_goals first
      | (go_meet; exact ⟨congrArg Value.bool m6, rfl⟩)
      | (go_meet; exact ⟨congrArg Value.bool (show ((decide ((b0.toNat : Int) ≥ 65)) && (decide ((b0.toNat : Int) ≤ 90))) = true by rw [m5, m6]; rfl), rfl⟩)
      | (rename_i h; exact absurd (show (b0.toNat : Int) < 65 from h) (by have := of_decide_eq_true m5'; omega))
  case rest =>
  obtain ⟨rfl, hwf⟩ := hcut
  subst hwf
  obtain ⟨w4, hw4⟩ : ∃ w4, w4 = wc := ⟨_, rfl⟩
  subst hw4
  clear m4 m5 m5' m6
  go_upto_region 25 with (first
    | (go_at_call 13; refine (lexOf_any _ _ _).mono ?_; rintro e w5 ⟨rfl, hb5⟩)
    | (at_builtin; refine wpList_cat3 rfl _ _ rfl w5.heap.size (.slice none 0 0) [] rfl (toks_nil _ _) (by simp) w5.heap.size (.slice (some ⟨w5.heap.size, 0, none⟩) 1 1) [⟨false, [b0], 9⟩] rfl (toks_lit1 w5 (Nat.le_refl _) 9 [b0]) (by simp) ?_; intro v6 w6 hT6 hB6))
  have hB46 : Below w4.heap.size w4 w6 := hb5.trans ((((Below.refl w5.heap.size w5).alloc (Nat.le_refl _) _).trans hB6).mono hb5.size)
  have hs56 := hB6.size
  have hs45 := hb5.size
  have hq6 : w5.heap.size ≤ w6.heap.size := by simp at hs56; omega
  replace hT6 := Lib.hid hT6
  have hT2w : Toks w0.heap.size v2 [⟨false, [b1, b2], 10⟩] w6 := hT2'.out.below hB46
  have hB09 : Below w0.heap.size w0 w6 := hBa.trans (hB46.mono hBa.size)
  clear hb5 hB6 s3 hs56 hB46
  go_upto_region 32 with (fail)
  go_wp2_with (at_builtin; refine wpList_cat3 rfl _ _ rfl w5.heap.size v6 _ rfl hT6.out hq6 w0.heap.size v2 [⟨false, [b1, b2], 10⟩] rfl hT2w (by simp) ?_; intro va wa hTa hBa2)
  go_ret
  exact ⟨va, w5.heap.size, rfl, hTa, Nat.le_trans hBa.size hs45, hB09.trans (hBa2.mono (Nat.le_trans hBa.size hs45))⟩
theorem step_none {P : Program} {w : World} {ops : Array Oper} {o : Oper} {a : Act} {K : Act → World → Prop} {Q : Exit → Act → World → Prop} {E : Prop} (hgd : o.guard = none) (s x : Operand) (t : TypeId)
    (ho : o.op = .call { callee := .builtin .append, args := #[s, x], argTypes := #[t, t] })
    (base : Nat) (e : TypeId) (i : TypeInfo) (size : Nat) (ht : P.underlying t = some (.slice e)) (hi : P.info? e = some i)
    (v : Value) (n : Nat) (xs : List Value) (hs : a.eval s = v) (hown : w.ownsRow base e size v n xs) (hx : a.eval x = .slice none 0 0)
    (h : K (a.put o.dst v) w) : if Region.wanted o (yielded ops a.tmps) = true then Oper.wp P o a w K Q else E := by
  have hw : Region.wanted o (yielded ops a.tmps) = true := by simp [Region.wanted, hgd]
  rw [if_pos hw]
  have hrun := run_append_owned_none (P := P) (w := w) base t o.type e i size ht hi v n xs hown
  unfold Oper.wp
  simp [execOp, ho, resolve, invoke, builtin, hs, hx, hrun, Result.andThen]
  exact h
theorem toks_lit2 {B : Nat} (w : World) (hB : B ≤ w.heap.size) (t t' : Int) (v v' : List UInt8) : Toks B (.slice (some ⟨w.heap.size, 0, none⟩) 2 2) [⟨false, v, t⟩, ⟨false, v', t'⟩] (w.alloc (.cells #[.int .i64 t, .string (tx v), .bool false, .int .i64 t', .string (tx v'), .bool false] 26)) :=
  World.ownsRow_lit w #[.int .i64 t, .string (tx v), .bool false, .int .i64 t', .string (tx v'), .bool false] 2 hB (by unfold maxLen; omega) rfl
set_option maxRecDepth 100000 in
theorem sanB_any (b0 b1 b3 : UInt8) (h0 : isFl b0.toNat = true) (h1 : isRk b1.toNat = true) (h3 : isUp b3.toNat = true) (w : World) :
    Calls Tryd.prog 8 #[.string (tx [b0, b1, 61, b3])] w fun e w' => SanP [⟨false, [b0, b1], 10⟩, ⟨false, [61], 20⟩, ⟨false, [b3], 21⟩] w e w' := by
  have r3 : 65 ≤ b3.toNat ∧ b3.toNat ≤ 90 := by unfold isUp at h3; simpa using h3
  have m1 : ((b3.toNat : Int) == 43) = false := by rw [beq_eq_false_iff_ne]; omega
  have m2 : ((b3.toNat : Int) == 35) = false := by rw [beq_eq_false_iff_ne]; omega
  have s1 : ∀ wx, (Instr.slice 9 (.string (tx [b0, b1, 61, b3])) none (some (.int .i64 4)) none).run Tryd.prog wx = .ok (.string (tx [b0, b1, 61, b3])) wx := fun wx => slice_to3 [b0, b1, 61, b3] 4 (by simp) wx
  have s2 : ∀ wx, (Instr.slice 9 (.string (tx [b0, b1, 61, b3])) (some (.int .i64 3)) (some (.int .i64 4)) none).run Tryd.prog wx = .ok (.string (tx [b3])) wx := fun wx => slice_mid [b0, b1, 61, b3] 3 4 (by omega) (by simp) wx
  have s2' : ∀ wx, (Instr.slice 9 (.string (tx [b0, b1, 61, b3])) (some (.int .i64 (IntKind.i64.wrap 3))) (some (.int .i64 4)) none).run Tryd.prog wx = .ok (.string (tx [b3])) wx := s2
  have s3 : ∀ wx, (Instr.slice 9 (.string (tx [b0, b1, 61, b3])) (some (.int .i64 0)) (some (.int .i64 2)) none).run Tryd.prog wx = .ok (.string (tx [b0, b1])) wx := fun wx => slice_mid [b0, b1, 61, b3] 0 2 (by omega) (by simp) wx
  clear h0 h1 h3 r3
  go_enter Tryd.func8, Tryd.ntmps8
  go_upto_region 4 with (fail)
  go_cut [21] from 10 to 21 (fun x wx => x = .bool false ∧ wx = w)
  case first =>
    go_wp2_with (fail)
    all_goals first
      | (go_meet; exact ⟨congrArg Value.bool m2, rfl⟩)
      | (go_meet; exact ⟨congrArg Value.bool (show (((b3.toNat : Int) == 43) || ((b3.toNat : Int) == 35)) = false by rw [m1, m2]; rfl), rfl⟩)
      | (rename_i h; exact absurd (show (b3.toNat : Int) = 43 from h) (by have := m1; rw [beq_eq_false_iff_ne] at this; exact this))
  case rest =>
  obtain ⟨rfl, hwc⟩ := hcut
  subst hwc
  obtain ⟨x0, hx0⟩ : ∃ x0, x0 = wc := ⟨_, rfl⟩
  subst hx0
  go_upto_region 14 with (fail)
  go_cut [60] from 52 to 60 (fun x wx => x = .bool true ∧ wx = x0)
  case first =>
    go_wp2_with (fail)
    go_meet
    exact ⟨rfl, rfl⟩
  case rest =>
  obtain ⟨rfl, hwd⟩ := hcut
  subst hwd
  obtain ⟨w0, hw0⟩ : ∃ w0, w0 = wc := ⟨_, rfl⟩
  subst hw0
  clear m1 m2 s1
  go_upto_region 15 with (fail)
  have hd0 : Below w0.heap.size w0 w0.drew := ⟨rfl, rfl, rfl, Nat.le_refl _, fun _ _ => rfl⟩
  refine wp_region_held_drew (S := fun v => Below w0.heap.size w0 v) (by kernel_rfl) hd0 (fun hHeld => ?_)
  (refine wpAnyH_take (i := 1) (v := ?_) rfl (by kernel_rfl) (by kernel_rfl) (by kernel_rfl) (fun _ _ _ h => h) (Or.inl ⟨by rfl, ?_⟩) (by assumption) ?_; rotate_left; · (intro w hSw; go_simp; try with_reducible rfl)); try simp only [List.getElem_toArray, List.getElem_cons_succ, List.getElem_cons_zero, Act.put, List.setIfInBounds_toArray, List.set_cons_zero, List.set_cons_succ]
  (refine wpAnyH_take (i := 2) (v := ?_) rfl (by kernel_rfl) (by kernel_rfl) (by kernel_rfl) (fun _ _ _ h => h) (Or.inl ⟨by rfl, ?_⟩) (by assumption) ?_; rotate_left; · (intro w hSw; go_simp; try with_reducible rfl)); try simp only [List.getElem_toArray, List.getElem_cons_succ, List.getElem_cons_zero, Act.put, List.setIfInBounds_toArray, List.set_cons_zero, List.set_cons_succ]
  (refine wpAnyH_take (i := 3) (v := ?_) rfl (by kernel_rfl) (by kernel_rfl) (by kernel_rfl) (fun _ _ _ h => h) (Or.inl ⟨by rfl, ?_⟩) (by assumption) ?_; rotate_left; · (intro w hSw; go_simp; try with_reducible rfl)); try simp only [List.getElem_toArray, List.getElem_cons_succ, List.getElem_cons_zero, Act.put, List.setIfInBounds_toArray, List.set_cons_zero, List.set_cons_succ]
  (refine wpAnyH_take (i := 4) (v := ?_) rfl (by kernel_rfl) (by kernel_rfl) (by kernel_rfl) (fun _ _ _ h => h) (Or.inl ⟨by rfl, ?_⟩) (by assumption) ?_; rotate_left; · (intro w hSw; go_simp; try with_reducible rfl)); try simp only [List.getElem_toArray, List.getElem_cons_succ, List.getElem_cons_zero, Act.put, List.setIfInBounds_toArray, List.set_cons_zero, List.set_cons_succ]
  (refine wpAnyH_take (i := 5) (v := ?_) rfl (by kernel_rfl) (by kernel_rfl) (by kernel_rfl) (fun _ _ _ h => h) (Or.inl ⟨by rfl, ?_⟩) (by assumption) ?_; rotate_left; · (intro w hSw; go_simp; try with_reducible rfl)); try simp only [List.getElem_toArray, List.getElem_cons_succ, List.getElem_cons_zero, Act.put, List.setIfInBounds_toArray, List.set_cons_zero, List.set_cons_succ]
  (refine wpAnyH_take (i := 8) (v := ?_) rfl (by kernel_rfl) (by kernel_rfl) (by kernel_rfl) (fun _ _ _ h => h) (Or.inl ⟨by rfl, ?_⟩) (by assumption) ?_; rotate_left; · (intro w hSw; go_simp; try with_reducible rfl)); try simp only [List.getElem_toArray, List.getElem_cons_succ, List.getElem_cons_zero, Act.put, List.setIfInBounds_toArray, List.set_cons_zero, List.set_cons_succ]
  refine wpAnyH_ready (rs := [0]) (by kernel_rfl) (by simp) ?_; refine AllReadyH.cons rfl (fun K hK => ?_) AllReadyH.nil; go_simp
  refine (lexOf_any _ _ _).mono ?_
  rintro e w1 ⟨rfl, hb1⟩
  refine hK.out _ _ (hHeld.trans (hb1.mono hHeld.size)) (fun hHeld => ?_); clear hK K; try simp only [List.getElem_toArray, List.getElem_cons_succ, List.getElem_cons_zero, Act.put, List.setIfInBounds_toArray, List.set_cons_zero, List.set_cons_succ]
  refine wpAnyH_ready (rs := [6]) (by kernel_rfl) (by simp) ?_; refine AllReadyH.cons rfl (fun K hK => ?_) AllReadyH.nil; go_simp
  refine (lexOf_any _ _ _).mono ?_
  rintro e w2 ⟨rfl, hb2⟩
  have hH2 := hHeld.trans (hb2.mono hHeld.size)
  refine hK.out _ _ (hH2) (fun hHeld => ?_); clear hK K; try simp only [List.getElem_toArray, List.getElem_cons_succ, List.getElem_cons_zero, Act.put, List.setIfInBounds_toArray, List.set_cons_zero, List.set_cons_succ]
  refine wpAnyH_ready (rs := [7]) (by kernel_rfl) (by simp) ?_; refine AllReadyH.cons rfl (fun K hK => ?_) AllReadyH.nil; go_simp
  have hT3 : Hid (Toks w0.heap.size (.slice (some ⟨w2.heap.size, 0, none⟩) 2 2) [⟨false, [61], 20⟩, ⟨false, [b3], 21⟩] (w2.alloc (.cells #[.int .i64 20, .string ⟨#[61]⟩, .bool false, .int .i64 21, .string (tx [b3]), .bool false] 26))) := Lib.hid (toks_lit2 (B := w0.heap.size) w2 hH2.size 20 21 [61] [b3])
  have hH3 := hH2.alloc hH2.size (.cells #[.int .i64 20, .string ⟨#[61]⟩, .bool false, .int .i64 21, .string (tx [b3]), .bool false] 26)
  refine hK.out _ _ (hH3) (fun hHeld => ?_); clear hK K; try simp only [List.getElem_toArray, List.getElem_cons_succ, List.getElem_cons_zero, Act.put, List.setIfInBounds_toArray, List.set_cons_zero, List.set_cons_succ]
  refine wpAnyH_ready (rs := [9]) (by kernel_rfl) (by simp) ?_
  refine AllReadyH.cons rfl (fun K hK => ?_) AllReadyH.nil
  obtain ⟨i0, hi, hz0, hz1, hz2⟩ := info_parts infoOut
  refine step_none rfl (.tmp 68) (.tmp 69) 22 rfl w0.heap.size 26 i0 3 Tryd.underlying22 hi (.slice (some ⟨w2.heap.size, 0, none⟩) 2 2) 2 (cells3 ([⟨false, [61], 20⟩, ⟨false, [b3], 21⟩].map tokX)) (by simp [Act.eval, Act.put]) (by have h := hT3.out; unfold Toks at h; exact h) (by simp [Act.eval, Act.put]) ?_
  refine hK.out _ _ hH3 (fun hHeld2 => ?_)
  clear hK K
  try simp only [List.getElem_toArray, List.getElem_cons_succ, List.getElem_cons_zero, Act.put, List.setIfInBounds_toArray, List.set_cons_zero, List.set_cons_succ]
  (refine wpAnyH_take (i := 10) (v := ?_) rfl (by kernel_rfl) (by kernel_rfl) (by kernel_rfl) (fun _ _ _ h => h) (Or.inl ⟨by rfl, ?_⟩) (by assumption) ?_; rotate_left; · (intro w hSw; go_simp; try with_reducible rfl)); try simp only [List.getElem_toArray, List.getElem_cons_succ, List.getElem_cons_zero, Act.put, List.setIfInBounds_toArray, List.set_cons_zero, List.set_cons_succ]
  refine wpAnyH_done (by kernel_rfl) ?_ _
  clear hHeld2 hb1 hb2 hH2 hd0 s2 s2'
  generalize (w2.alloc (.cells #[.int .i64 20, .string ⟨#[61]⟩, .bool false, .int .i64 21, .string (tx [b3]), .bool false] 26)) = w3 at *
  generalize (Value.slice (some ⟨w2.heap.size, 0, none⟩) 2 2) = v3 at *
  go_upto_region 18 with (first
    | (go_at_call 13; refine (lexOf_any _ _ _).mono ?_; rintro e w4 ⟨rfl, hb4⟩)
    | (at_builtin; refine wpList_cat3 rfl _ _ rfl w4.heap.size (.slice (some ⟨w4.heap.size, 0, none⟩) 1 1) [⟨false, [b0, b1], 10⟩] rfl (toks_lit1 w4 (Nat.le_refl _) 10 [b0, b1]) (by simp) w0.heap.size v3 [⟨false, [61], 20⟩, ⟨false, [b3], 21⟩] rfl ((Toks.below hT3.out hb4).below ((Below.refl w4.heap.size w4).alloc (Nat.le_refl _) _)) (by simp) ?_; intro v5 w5 hT5 hB5))
  have hB05 : Below w0.heap.size w0 w5 := (hH3.trans (hb4.mono hH3.size)).trans ((((Below.refl w4.heap.size w4).alloc (Nat.le_refl _) _).trans hB5).mono (Nat.le_trans hH3.size hb4.size))
  replace hT5 := Lib.hid hT5
  clear hb4 hB5 hH3 hT3 s3
  go_upto_region 32 with (fail)
  go_wp2_with (at_builtin; refine wpList_cat3 rfl _ _ rfl w5.heap.size (.slice none 0 0) [] rfl (toks_nil _ _) (Nat.le_refl _) w4.heap.size v5 _ rfl hT5.out (by simp) ?_; intro va wa hTa hBa2)
  go_ret
  exact ⟨va, w5.heap.size, rfl, hTa, hB05.size, hB05.trans (hBa2.mono hB05.size)⟩
end Go.Proofs.YtlcdhahnngfjhaaDoor

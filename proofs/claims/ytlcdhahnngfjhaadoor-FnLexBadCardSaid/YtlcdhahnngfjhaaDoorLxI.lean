/- The lexer's next token: squares, ranks, numbers, dots. -/
import Derived.Test.YtlcdhahnngfjhaaDoorLxH
namespace Go.Proofs.YtlcdhahnngfjhaaDoor
open Go.Proofs Go.Shelf Go.Lib Go.ChangeShapes Go.WideShapes Go.ChangeAt Go.RowKit Go.PlainAid
set_option maxHeartbeats 4000000
set_option linter.unusedVariables false
set_option linter.unusedSimpArgs false
attribute [local go_sem] tx_list tx_size bt_tx

set_option maxRecDepth 100000 in
theorem next_square (L : List UInt8) (hL : L.length ≤ 1000000) (hA : asciiL L) (p q : Nat) (pr : Bool) (hp : p ≤ L.length) (hq : scan isWs L p = q) (h1 : isFl (chAt L q) = true) (h2 : isD (chAt L (q + 1)) = true) (h3 : isFl (chAt L (q + 2)) = false) (h4 : isD (chAt L (q + 2)) = false) :
    Ok L p ⟨false, false, false, pr⟩ ⟨false, mid L q (q + 2), 10⟩ (q + 2) ⟨false, false, false, pr⟩ := by
  intro gl w hT h
  obtain ⟨k1, hx1, hr1⟩ := tok_laid h
  have hgl : w.heap.size ≠ gl := by have := World.rowIs.lt h; omega
  have hql : q ≤ L.length := by have := scan_le isWs L p hp; omega
  have hT1 := hT.lx h hx1
  go_enter Tryd.func19, Tryd.ntmps19
  go_upto_region 1 with (fail)
  generalize (w.alloc (.cells #[.nilIface, .string ⟨#[]⟩, .int .i64 0] 47)) = w1 at *
  have hsk := Lib.hid (skip_any gl L p _ hL hp w1 k1)
  rw [hq] at hsk
  replace hr1 := Lib.hid hr1
  clear h hT
  go_upto_region 2 with (go_at_call 21; refine hsk.out.mono ?_; rintro e w2 ⟨rfl, k2, hx2⟩)
  have hT2 := Lib.hid (hT1.lx k1 hx2)
  have b0 := k2.cells.1
  have b1 := k2.cells.2.1
  have b2 := k2.cells.2.2.1
  have b3 := k2.cells.2.2.2.1
  have b4 := k2.cells.2.2.2.2.1
  have b5 := k2.cells.2.2.2.2.2.1
  have b6 := k2.cells.2.2.2.2.2.2.1
  have hx3 := Lib.hid (hx1.trans hx2)
  have hr2 := Lib.hid (Lx.row hx2 hr1.out hgl)
  clear hsk hx1 hx2 hr1 k1 hT1
  have hC : 97 ≤ chAt L q ∧ chAt L q ≤ 104 := by unfold isFl at h1; simpa using h1
  have n40 : (((chAt L q : Nat) : Int) == 40) = false := by rw [beq_eq_false_iff_ne]; omega
  have n41 : (((chAt L q : Nat) : Int) == 41) = false := by rw [beq_eq_false_iff_ne]; omega
  have n91 : (((chAt L q : Nat) : Int) == 91) = false := by rw [beq_eq_false_iff_ne]; omega
  have n93 : (((chAt L q : Nat) : Int) == 93) = false := by rw [beq_eq_false_iff_ne]; omega
  have n34 : (((chAt L q : Nat) : Int) == 34) = false := by rw [beq_eq_false_iff_ne]; omega
  have n123 : (((chAt L q : Nat) : Int) == 123) = false := by rw [beq_eq_false_iff_ne]; omega
  have n125 : (((chAt L q : Nat) : Int) == 125) = false := by rw [beq_eq_false_iff_ne]; omega
  have n46 : (((chAt L q : Nat) : Int) == 46) = false := by rw [beq_eq_false_iff_ne]; omega
  have n120 : (((chAt L q : Nat) : Int) == 120) = false := by rw [beq_eq_false_iff_ne]; omega
  have n42 : (((chAt L q : Nat) : Int) == 42) = false := by rw [beq_eq_false_iff_ne]; omega
  have n45 : (((chAt L q : Nat) : Int) == 45) = false := by rw [beq_eq_false_iff_ne]; omega
  have n36 : (((chAt L q : Nat) : Int) == 36) = false := by rw [beq_eq_false_iff_ne]; omega
  have n33 : (((chAt L q : Nat) : Int) == 33) = false := by rw [beq_eq_false_iff_ne]; omega
  have n63 : (((chAt L q : Nat) : Int) == 63) = false := by rw [beq_eq_false_iff_ne]; omega
  have n79 : (((chAt L q : Nat) : Int) == 79) = false := by rw [beq_eq_false_iff_ne]; omega
  have n61 : (((chAt L q : Nat) : Int) == 61) = false := by rw [beq_eq_false_iff_ne]; omega
  have n43 : (((chAt L q : Nat) : Int) == 43) = false := by rw [beq_eq_false_iff_ne]; omega
  have n35 : (((chAt L q : Nat) : Int) == 35) = false := by rw [beq_eq_false_iff_ne]; omega
  have n48 : (((chAt L q : Nat) : Int) == 48) = false := by rw [beq_eq_false_iff_ne]; omega
  have n49 : (((chAt L q : Nat) : Int) == 49) = false := by rw [beq_eq_false_iff_ne]; omega
  have n50 : (((chAt L q : Nat) : Int) == 50) = false := by rw [beq_eq_false_iff_ne]; omega
  have n51 : (((chAt L q : Nat) : Int) == 51) = false := by rw [beq_eq_false_iff_ne]; omega
  have n52 : (((chAt L q : Nat) : Int) == 52) = false := by rw [beq_eq_false_iff_ne]; omega
  have n53 : (((chAt L q : Nat) : Int) == 53) = false := by rw [beq_eq_false_iff_ne]; omega
  have n54 : (((chAt L q : Nat) : Int) == 54) = false := by rw [beq_eq_false_iff_ne]; omega
  have n55 : (((chAt L q : Nat) : Int) == 55) = false := by rw [beq_eq_false_iff_ne]; omega
  have n56 : (((chAt L q : Nat) : Int) == 56) = false := by rw [beq_eq_false_iff_ne]; omega
  have n57 : (((chAt L q : Nat) : Int) == 57) = false := by rw [beq_eq_false_iff_ne]; omega
  have n0 : (((chAt L q : Nat) : Int) == 0) = false := by rw [beq_eq_false_iff_ne]; omega
  have hlt : isLt (chAt L q) = true := by unfold isLt; simp; omega
  have hup : isUp (chAt L q) = false := by unfold isUp; simp; omega
  have hre := Lib.hid (readSquare_any gl L q ⟨false, false, false, pr⟩ hL (hA q) h1 h2 h3 h4)
  have hil := Lib.hid (fun w => isLetter_any (chAt L q) w)
  have hiu := Lib.hid (fun w hw => isUpper_any (chAt L q) (hA q) w hw)
  rw [hlt] at hil
  rw [hup] at hiu
  have e32 : IntKind.i32.wrap ((chAt L q : Nat) : Int) = (chAt L q : Nat) := IntWalk.i32_in _ (by have := hA q; omega)
  clear hq hp hlt hup h1 h2 h3 h4
  have k3 := Lib.hid k2
  have hr3 := hr2
  have hx4 := hx3
  clear k2
  generalize chAt L q = C at *
  go_upto_region 114 with (first
    | (go_at_call 33; refine (hiu.out _ hT2.out).mono ?_; rintro e w' ⟨rfl, rfl⟩)
    | (go_at_call 25; refine (hil.out _).mono ?_; rintro e w' ⟨rfl, rfl⟩))
  go_wp2_with (first
    | (go_at_call 38; refine (hre.out _ k3.out).mono ?_; rintro e w5 ⟨ev, rfl, hev, k5, hx5⟩; have hone := Lib.hid (hev.one (mid L q (q + 2)) 10); have hr5 := Lib.hid (Lx.row hx5 hr3.out hgl); have hfi := Lib.hid (tok_any k5 (hx4.out.trans hx5) (Nat.le_refl w.heap.size) hgl hev); clear hev k5 hx5)
    | (refine wpList_store_mid rfl 47 _ _ rfl w.heap.size 0 #[ev, .string (tx (mid L q (q + 2))), .int .i64 10] rfl rfl (rowIs_there hr5.out) (by kernel_rfl) hone.out ?_))
  exact bodyPost_ret (tok_ret rfl _ hr5.out rfl _ _ _) rfl hfi.out
set_option maxRecDepth 100000 in
theorem next_rank (L : List UInt8) (hL : L.length ≤ 1000000) (hA : asciiL L) (p m : Nat) (pr : Bool) (hp : p ≤ L.length) (hq : scan isWs L p = m + 1) (hC : isD (chAt L (m + 1)) = true) (hpu : isUp (chAt L m) = true) :
    Ok L p ⟨false, false, false, pr⟩ ⟨!isRk (chAt L (m + 1)), [bAt L (m + 1)], 17⟩ (m + 1 + 1) ⟨false, false, false, pr⟩ := by
  intro gl w hT h
  obtain ⟨k1, hx1, hr1⟩ := tok_laid h
  have hgl : w.heap.size ≠ gl := by have := World.rowIs.lt h; omega
  have hql : (m + 1) ≤ L.length := by have := scan_le isWs L p hp; omega
  have hT1 := hT.lx h hx1
  have hs : m < (tx L).size := by show m < L.length; omega
  have hg1 : decide ((m : Int) + 1 > 0) = true := decide_eq_true (by omega)
  have hg2 : (0 : Int) < (m : Int) + 1 := by omega
  have e1 : IntKind.i64.wrap ((m : Int) + 1 - 1) = (m : Int) := by rw [show (m : Int) + 1 - 1 = m by omega]; exact IntWalk.i64_in _ (by omega)
  have hb : (m : Int) < (L.length : Int) := by omega
  have hat := tx_at L m hs
  have e32 : IntKind.i32.wrap ((((tx L)[m]'hs).toNat : Nat) : Int) = (((tx L)[m]'hs).toNat : Nat) := IntWalk.i32_in _ (by have := hA m; rw [hat]; omega)
  go_enter Tryd.func19, Tryd.ntmps19
  go_upto_region 1 with (fail)
  generalize (w.alloc (.cells #[.nilIface, .string ⟨#[]⟩, .int .i64 0] 47)) = w1 at *
  have hsk := Lib.hid (skip_any gl L p _ hL hp w1 k1)
  rw [hq] at hsk
  replace hr1 := Lib.hid hr1
  clear h hT
  go_upto_region 2 with (go_at_call 21; refine hsk.out.mono ?_; rintro e w2 ⟨rfl, k2, hx2⟩)
  have hT2 := Lib.hid (hT1.lx k1 hx2)
  have b0 := k2.cells.1
  have b1 := k2.cells.2.1
  have b2 := k2.cells.2.2.1
  have b3 := k2.cells.2.2.2.1
  have b4 := k2.cells.2.2.2.2.1
  have b5 := k2.cells.2.2.2.2.2.1
  have b6 := k2.cells.2.2.2.2.2.2.1
  have hx3 := Lib.hid (hx1.trans hx2)
  have hr2 := Lib.hid (Lx.row hx2 hr1.out hgl)
  clear hsk hx1 hx2 hr1 k1 hT1
  have hiu : Hid (∀ n : Nat, Calls Tryd.prog 33 #[.int .i32 ((((tx L)[m]'hs).toNat : Nat) : Int)] (w2.drewN n) fun e w' => e = .returned (.bool true) ∧ w2.drewN n = w') := Lib.hid (fun n => (isUpper_any _ (by rw [hat]; exact hA m) _ (hT2.out.drewN n)).mono (by rintro e w' ⟨rfl, rfl⟩; exact ⟨by rw [hat, hpu], rfl⟩))
  have hre := Lib.hid (readRank_any gl L (m + 1) ⟨false, false, false, pr⟩ hL hql (hA (m + 1)))
  have hCC : 48 ≤ chAt L (m + 1) ∧ chAt L (m + 1) ≤ 57 := by unfold isD at hC; simpa using hC
  clear hq hp hC hat hpu
  have hcc := Lib.hid (show chAt L (m + 1) = chAt L (m + 1) from rfl)
  generalize hCe : chAt L (m + 1) = C at b3 hCC
  replace hCe := Lib.hid hCe
  clear hcc
  (have : C = 48 ∨ C = 49 ∨ C = 50 ∨ C = 51 ∨ C = 52 ∨ C = 53 ∨ C = 54 ∨ C = 55 ∨ C = 56 ∨ C = 57 := (by omega))
  rcases this with rfl | rfl | rfl | rfl | rfl | rfl | rfl | rfl | rfl | rfl
  all_goals
    clear hCC
    go_upto_region 91 with (fail)
    go_quiet (first | ((go_at_call 33; exact q_of (hiu.out _))))
    have k3 := World.rowIs.of_block (w' := w2.drewN nq) k2 rfl
    have hr3 := Lib.hid (Lx.row (Lx.drewN w2 nq) hr2.out hgl)
    have hx4 := Lib.hid (hx3.out.trans (Lx.drewN w2 nq))
    replace k3 := Lib.hid k3
    clear k2 hr2 hx3 hiu hT2 b0 b1 b2 b3 b4 b5 b6
    go_wp2_with (first
      | (go_at_call 34; refine (hre.out _ k3.out).mono ?_; rintro e w5 ⟨ev, rfl, hev, k5, hx5⟩; have hone := Lib.hid (hev.one [bAt L (m + 1)] 17); have hr5 := Lib.hid (Lx.row hx5 hr3.out hgl); have hfi := Lib.hid (tok_any k5 (hx4.out.trans hx5) (Nat.le_refl w.heap.size) hgl hev); clear hev k5 hx5)
      | (refine wpList_store_mid rfl 47 _ _ rfl w.heap.size 0 #[ev, .string (tx [bAt L (m + 1)]), .int .i64 17] rfl rfl (rowIs_there hr5.out) (by kernel_rfl) hone.out ?_))
    exact bodyPost_ret (tok_ret rfl _ hr5.out rfl _ _ _) rfl hfi.out
set_option maxRecDepth 100000 in
theorem peek_any (gl : Nat) (L : List UInt8) (p : Nat) (f : Fl) (hL : L.length ≤ 1000000) (hp : p ≤ 1000000) (w : World) (h : LexAt gl L p f w) :
    Calls Tryd.prog 28 #[.pointer (some ⟨gl, 0, none⟩)] w fun e w' => e = .returned (.int .u8 (chAt L (p + 1) : Nat)) ∧ ∃ n, w' = w.drewN n := by
  have b0 := h.cells.1
  have b2 := h.cells.2.2.1
  by_cases hlt : p + 1 < L.length
  · have hd : decide ((L.length : Int) ≤ (p : Int) + 1) = false := decide_eq_false (by omega)
    have hd2 : decide ((p : Int) + 1 ≥ (L.length : Int)) = false := hd
    have hrl : (p : Int) + 1 < (L.length : Int) := by omega
    have hr0 : (0 : Int) ≤ (p : Int) + 1 := by omega
    have hsz : p + 1 < (tx L).size := hlt
    have hv := Lib.hid (tx_at L (p + 1) hsz)
    clear h
    go_enter Tryd.func28, Tryd.ntmps28
    go_upto_region 1 with (fail)
    go_quiet (fail)
    go_upto_region 3 with (fail)
    generalize hm : nq = m1
    clear hm
    go_quiet (fail)
    go_wp2_with (fail)
    go_ret
    exact ⟨congrArg (fun c : Nat => Ending.returned (.int .u8 (c : Int))) hv.out, m1 + nq, World.drewN_drewN _ _ _⟩
  · have hd : decide ((L.length : Int) ≤ (p : Int) + 1) = true := decide_eq_true (by omega)
    have hd2 : decide ((p : Int) + 1 ≥ (L.length : Int)) = true := hd
    have hch : chAt L (p + 1) = 0 := chAt_end L _ (by omega)
    rw [hch]
    clear h
    go_enter Tryd.func28, Tryd.ntmps28
    go_upto_region 1 with (fail)
    go_quiet (fail)
    go_wp2_with (fail)
    go_ret
    exact ⟨rfl, _, rfl⟩
set_option maxRecDepth 100000 in
theorem next_number0 (L : List UInt8) (hL : L.length ≤ 1000000) (hA : asciiL L) (p E : Nat) (pr : Bool) (hp : p ≤ L.length) (hq : scan isWs L p = 0) (hC : isD (chAt L 0) = true) (hE : scan isD L 0 = E) (hch : chAt L E = 46) :
    Ok L p ⟨false, false, false, pr⟩ ⟨false, mid L 0 E, 6⟩ E ⟨false, false, false, pr⟩ := by
  intro gl w hT h
  obtain ⟨k1, hx1, hr1⟩ := tok_laid h
  have hgl : w.heap.size ≠ gl := by have := World.rowIs.lt h; omega
  have hql : 0 ≤ L.length := by have := scan_le isWs L p hp; omega
  have hT1 := hT.lx h hx1
  go_enter Tryd.func19, Tryd.ntmps19
  go_upto_region 1 with (fail)
  generalize (w.alloc (.cells #[.nilIface, .string ⟨#[]⟩, .int .i64 0] 47)) = w1 at *
  have hsk := Lib.hid (skip_any gl L p _ hL hp w1 k1)
  rw [hq] at hsk
  replace hr1 := Lib.hid hr1
  clear h hT
  go_upto_region 2 with (go_at_call 21; refine hsk.out.mono ?_; rintro e w2 ⟨rfl, k2, hx2⟩)
  have hT2 := Lib.hid (hT1.lx k1 hx2)
  have b0 := k2.cells.1
  have b1 := k2.cells.2.1
  have b2 := k2.cells.2.2.1
  have b3 := k2.cells.2.2.2.1
  have b4 := k2.cells.2.2.2.2.1
  have b5 := k2.cells.2.2.2.2.2.1
  have b6 := k2.cells.2.2.2.2.2.2.1
  have hx3 := Lib.hid (hx1.trans hx2)
  have hr2 := Lib.hid (Lx.row hx2 hr1.out hgl)
  clear hsk hx1 hx2 hr1 k1 hT1
  have hEq : 0 ≤ E ∧ E ≤ L.length := by have := scan_le isD L 0 hql; rw [hE] at this; exact this
  have hCC : 48 ≤ chAt L 0 ∧ chAt L 0 ≤ 57 := by unfold isD at hC; simpa using hC
  have hd0 := hC
  have hsl : Hid (∀ wx : World, (Instr.slice 9 (.string (tx L)) (some (.int .i64 (0))) (some (.int .i64 (E : Int))) none).run Tryd.prog wx = .ok (.string (tx (mid L 0 E))) wx) := Lib.hid (fun wx => slice_mid L 0 E (by omega) (by omega) wx)
  clear hq hp hC
  replace hE := Lib.hid hE
  generalize hCe : chAt L 0 = C at b3 hCC
  replace hCe := Lib.hid hCe
  (have : C = 48 ∨ C = 49 ∨ C = 50 ∨ C = 51 ∨ C = 52 ∨ C = 53 ∨ C = 54 ∨ C = 55 ∨ C = 56 ∨ C = 57 := (by omega))
  rcases this with rfl | rfl | rfl | rfl | rfl | rfl | rfl | rfl | rfl | rfl
  all_goals
    clear hCC
    go_upto_region 91 with (fail)
    go_quiet (fail)
    have k3 := World.rowIs.of_block (w' := w2.drewN nq) k2 rfl
    have hr3 := Lib.hid (Lx.row (Lx.drewN w2 nq) hr2.out hgl)
    have hx4 := Lib.hid (hx3.out.trans (Lx.drewN w2 nq))
    clear k2 hr2 hx3 hT2 b0 b1 b2 b3 b4 b5 b6 
    generalize w2.drewN nq = w3 at *
    have d1 : w3.cell? ⟨gl, 1, none⟩ = some (.int .i64 (0)) := LexAt.cells k3 |>.2.1
    replace k3 := Lib.hid k3
    go_wp2_with (fail)
    go_loopw [] (fun wr => ∃ q : Nat, 0 ≤ q ∧ q ≤ L.length ∧ E = scan isD L q ∧ LexAt gl L q ⟨false, false, false, pr⟩ wr ∧ Lx gl w3 wr) (fun wr => L.length + 1 - posOf gl wr)
    case atStart => exact ⟨0, Nat.le_refl _, hql, hE.out.symm, k3.out, Lx.refl _ _⟩
    case round =>
      clear d1
      obtain ⟨q, hq1, hq2, hs, hk, hx⟩ := hrel
      have hpos := hk.pos
      have c3 := hk.cells.2.2.2.1
      have hsc := scan_step (t := isD) rfl L q
      have hin := @in_text isD rfl L q
      have hrd := Lib.hid (readChar_any gl L q _ hL (by omega) wr hk)
      have hdg := Lib.hid (fun w => isDigit_any (chAt L q) w)
      cases hd : isD (chAt L q)
      · rw [hd] at hsc hdg
        have hEq2 : E = q := by rw [hs, hsc]; rfl
        subst hEq2
        have x0 := hk.cells.1
        have x1 := hk.cells.2.1
        have hle : (0 : Int) ≤ (E : Int) := by omega
        rw [hch] at c3 hdg
        have hrE := Lib.hid (Lx.row hx hr3.out hgl)
        have hxE := Lib.hid (hx4.out.trans hx)
        have hkE := Lib.hid hk
        clear hk hx hs hsc hin hd hpos
        go_upto_region 102 with (go_at_call 35; refine (hdg.out _).mono ?_; rintro e w' ⟨rfl, rfl⟩)
        refine wp_region_held_drew (S := fun v => v.cell? ⟨gl, 0, none⟩ = some (.string (tx L)) ∧ v.cell? ⟨gl, 1, none⟩ = some (.int .i64 (E : Int))) (by kernel_rfl) ⟨x0, x1⟩ (fun hHeld => ?_)
        (refine wpAnyH_take (i := 0) (v := ?_) rfl (by kernel_rfl) (by kernel_rfl) (by kernel_rfl) (fun _ _ _ h => h) (Or.inl ⟨by rfl, ?_⟩) (by assumption) ?_; rotate_left; · (intro w hSw; go_simp; try with_reducible rfl)); try simp only [List.getElem_toArray, List.getElem_cons_succ, List.getElem_cons_zero, Act.put, List.setIfInBounds_toArray, List.set_cons_zero, List.set_cons_succ]
        (refine wpAnyH_take (i := 1) (v := ?_) rfl (by kernel_rfl) (by kernel_rfl) (by kernel_rfl) (fun _ _ _ h => h) (Or.inl ⟨by rfl, ?_⟩) (by assumption) ?_; rotate_left; · (intro w hSw; go_simp; try with_reducible rfl)); try simp only [List.getElem_toArray, List.getElem_cons_succ, List.getElem_cons_zero, Act.put, List.setIfInBounds_toArray, List.set_cons_zero, List.set_cons_succ]
        (refine wpAnyH_take (i := 2) (v := ?_) rfl (by kernel_rfl) (by kernel_rfl) (by kernel_rfl) (fun _ _ _ h => h) (Or.inl ⟨by rfl, ?_⟩) (by assumption) ?_; rotate_left; · (intro w hSw; go_simp; try with_reducible rfl)); try simp only [List.getElem_toArray, List.getElem_cons_succ, List.getElem_cons_zero, Act.put, List.setIfInBounds_toArray, List.set_cons_zero, List.set_cons_succ]
        (refine wpAnyH_take (i := 3) (v := ?_) rfl (by kernel_rfl) (by kernel_rfl) (by kernel_rfl) (fun _ _ _ h => h) (Or.inl ⟨by rfl, ?_⟩) (by assumption) ?_; rotate_left; · (intro w hSw; go_simp; try with_reducible rfl)); try simp only [List.getElem_toArray, List.getElem_cons_succ, List.getElem_cons_zero, Act.put, List.setIfInBounds_toArray, List.set_cons_zero, List.set_cons_succ]
        (refine wpAnyH_take (i := 4) (v := ?_) rfl (by kernel_rfl) (by kernel_rfl) (by kernel_rfl) (fun _ _ _ h => h) (Or.inl ⟨by rfl, ?_⟩) (by assumption) ?_; rotate_left; · (intro w hSw; go_simp; try with_reducible rfl)); try simp only [List.getElem_toArray, List.getElem_cons_succ, List.getElem_cons_zero, Act.put, List.setIfInBounds_toArray, List.set_cons_zero, List.set_cons_succ]
        (refine wpAnyH_take (i := 5) (v := ?_) rfl (by kernel_rfl) (by kernel_rfl) (by kernel_rfl) (fun _ _ _ h => h) (Or.inl ⟨by rfl, ?_⟩) (by assumption) ?_; rotate_left; · (intro w hSw; go_simp; try with_reducible rfl)); try simp only [List.getElem_toArray, List.getElem_cons_succ, List.getElem_cons_zero, Act.put, List.setIfInBounds_toArray, List.set_cons_zero, List.set_cons_succ]
        (refine wpAnyH_take (i := 6) (v := ?_) rfl (by kernel_rfl) (by kernel_rfl) (by kernel_rfl) (fun _ _ _ h => h) (Or.inl ⟨by rfl, ?_⟩) (by assumption) ?_; rotate_left; · (intro w hSw; go_simp; try with_reducible rfl)); try simp only [List.getElem_toArray, List.getElem_cons_succ, List.getElem_cons_zero, Act.put, List.setIfInBounds_toArray, List.set_cons_zero, List.set_cons_succ]
        (refine wpAnyH_take (i := 7) (v := ?_) rfl (by kernel_rfl) (by kernel_rfl) (by kernel_rfl) (fun _ _ _ h => h) (Or.inl ⟨by rfl, ?_⟩) (by assumption) ?_; rotate_left; · (intro w hSw; go_simp; try with_reducible rfl)); try simp only [List.getElem_toArray, List.getElem_cons_succ, List.getElem_cons_zero, Act.put, List.setIfInBounds_toArray, List.set_cons_zero, List.set_cons_succ]
        (refine wpAnyH_take (i := 8) (v := ?_) rfl (by kernel_rfl) (by kernel_rfl) (by kernel_rfl) (fun _ _ _ h => h) (Or.inl ⟨by rfl, ?_⟩) (by assumption) ?_; rotate_left; · (intro w hSw; go_simp; try with_reducible rfl)); try simp only [List.getElem_toArray, List.getElem_cons_succ, List.getElem_cons_zero, Act.put, List.setIfInBounds_toArray, List.set_cons_zero, List.set_cons_succ]
        have hsl2 := hsl.out
        (refine wpAnyH_take (i := 9) (v := ?_) rfl (by kernel_rfl) (by kernel_rfl) (by kernel_rfl) (fun _ _ _ h => h) (Or.inl ⟨by rfl, ?_⟩) (by assumption) ?_; rotate_left; · (intro w hSw; go_simp; try with_reducible rfl)); try simp only [List.getElem_toArray, List.getElem_cons_succ, List.getElem_cons_zero, Act.put, List.setIfInBounds_toArray, List.set_cons_zero, List.set_cons_succ]
        clear hsl2
        (refine wpAnyH_take (i := 10) (v := ?_) rfl (by kernel_rfl) (by kernel_rfl) (by kernel_rfl) (fun _ _ _ h => h) (Or.inl ⟨by rfl, ?_⟩) (by assumption) ?_; rotate_left; · (intro w hSw; go_simp; try with_reducible rfl)); try simp only [List.getElem_toArray, List.getElem_cons_succ, List.getElem_cons_zero, Act.put, List.setIfInBounds_toArray, List.set_cons_zero, List.set_cons_succ]
        refine wpAnyH_ready (rs := [11]) (by kernel_rfl) (by simp) ?_
        refine AllReadyH.cons rfl (fun K hK => ?_) AllReadyH.nil
        rw [if_pos (by rfl)]
        refine wp_store_mid 47 _ _ rfl w.heap.size 0 #[.nilIface, .string (tx (mid L 0 E)), .int .i64 6] rfl rfl (rowIs_there (hrE.out.of_block rfl)) (by kernel_rfl) (by simp [Value.oneCell']) ?_
        have hz := tok_fin (b := w.heap.size) (World.rowIs.of_block (w' := wr.drew) hkE.out rfl) (hxE.out.trans (Lx.drew wr)) (Nat.le_refl _) hgl [.nilIface, .string (tx (mid L 0 E)), .int .i64 6]
        refine hK.out _ _ ⟨hz.1.cells.1, hz.1.cells.2.1⟩ (fun hHeld2 => ?_)
        clear hK K hHeld2
        try simp only [List.getElem_toArray, List.getElem_cons_succ, List.getElem_cons_zero, Act.put, List.setIfInBounds_toArray, List.set_cons_zero, List.set_cons_succ]
        refine wpAnyH_done (by kernel_rfl) ?_ _
        go_wp2_with (fail)
        exact bodyPost_ret (tok_ret rfl _ (World.rowIs.of_block (w' := wr.drew) hrE.out rfl) rfl _ _ _) rfl (tok_none (World.rowIs.of_block (w' := wr.drew) hkE.out rfl) (hxE.out.trans (Lx.drew wr)) (Nat.le_refl _) hgl)
      · rw [hd] at hsc hdg
        have hql2 := hin hd
        have hE2 : E = scan isD L (q + 1) := by rw [hs, hsc]; rfl
        have hz0 : (((chAt L q : Nat) : Int) != 0) = true := by
          rw [bne_iff_ne]; intro e
          have : chAt L q = 0 := by omega
          rw [this] at hd; cases hd
        replace hx := Lib.hid hx
        replace hE2 := Lib.hid hE2
        clear hk hs hsc hin hd
        generalize chAt L q = D at *
        go_wp2_with (first
          | (go_at_call 35; refine (hdg.out _).mono ?_; rintro e w' ⟨rfl, rfl⟩)
          | (go_at_call 20; refine hrd.out.mono ?_; rintro e w4 ⟨rfl, k4, hx5⟩; have hpos2 := k4.pos; replace k4 := Lib.hid k4; replace hx5 := Lib.hid (hx.out.trans hx5)))
        exact ⟨⟨q + 1, by omega, by omega, hE2.out, k4.out, hx5.out⟩, by omega⟩
theorem q_ofN {P : Program} {f : FuncId} {args : Array Value} {w : World} {n : Nat} {v : Value}
    (h : Calls P f args (w.drewN n) fun e w' => e = .returned v ∧ ∃ k, w' = (w.drewN n).drewN k) : Calls P f args (w.drewN n) fun e w'' => e = .returned v ∧ ∃ m, w'' = w.drewN m :=
  h.mono fun _ _ ⟨he, k, hm⟩ => ⟨he, n + k, by rw [hm, World.drewN_drewN]⟩
set_option maxRecDepth 100000 in
theorem next_dot (L : List UInt8) (hL : L.length ≤ 1000000) (p q : Nat) (pr : Bool) (hp : p ≤ L.length) (hq : scan isWs L p = q) (hch : chAt L q = 46) (hnx : chAt L (q + 1) ≠ 46) :
    Ok L p ⟨false, false, false, pr⟩ ⟨false, [46], 7⟩ (q + 1) ⟨false, false, false, pr⟩ := by
  intro gl w hT h
  obtain ⟨k1, hx1, hr1⟩ := tok_laid h
  have hgl : w.heap.size ≠ gl := by have := World.rowIs.lt h; omega
  have hql : q ≤ L.length := by have := scan_le isWs L p hp; omega
  have hT1 := hT.lx h hx1
  go_enter Tryd.func19, Tryd.ntmps19
  go_upto_region 1 with (fail)
  generalize (w.alloc (.cells #[.nilIface, .string ⟨#[]⟩, .int .i64 0] 47)) = w1 at *
  have hsk := Lib.hid (skip_any gl L p _ hL hp w1 k1)
  rw [hq] at hsk
  replace hr1 := Lib.hid hr1
  clear h hT
  go_upto_region 2 with (go_at_call 21; refine hsk.out.mono ?_; rintro e w2 ⟨rfl, k2, hx2⟩)
  have hT2 := Lib.hid (hT1.lx k1 hx2)
  have b0 := k2.cells.1
  have b1 := k2.cells.2.1
  have b2 := k2.cells.2.2.1
  have b3 := k2.cells.2.2.2.1
  have b4 := k2.cells.2.2.2.2.1
  have b5 := k2.cells.2.2.2.2.2.1
  have b6 := k2.cells.2.2.2.2.2.2.1
  have hx3 := Lib.hid (hx1.trans hx2)
  have hr2 := Lib.hid (Lx.row hx2 hr1.out hgl)
  clear hsk hx1 hx2 hr1 k1 hT1
  rw [hch] at b3
  have hne : (((chAt L (q + 1) : Nat) : Int) == 46) = false := by rw [beq_eq_false_iff_ne]; omega
  have hpk : Hid (∀ n : Nat, Calls Tryd.prog 28 #[.pointer (some ⟨gl, 0, none⟩)] (w2.drewN n) fun e w' => e = .returned (.int .u8 (chAt L (q + 1) : Nat)) ∧ ∃ k, w' = (w2.drewN n).drewN k) := Lib.hid (fun n => peek_any gl L q _ hL (Nat.le_trans hql hL) (w2.drewN n) (World.rowIs.of_block k2 rfl))
  clear hq hp hT2
  generalize chAt L (q + 1) = D at *
  go_upto_region 68 with (fail)
  go_quiet (first | ((go_at_call 28; exact q_ofN (hpk.out _))))
  have k3 := World.rowIs.of_block (w' := w2.drewN nq) k2 rfl
  have hr3 := Lib.hid (Lx.row (Lx.drewN w2 nq) hr2.out hgl)
  have hx4 := Lib.hid (hx3.out.trans (Lx.drewN w2 nq))
  have hrd := Lib.hid (readChar_any gl L q ⟨false, false, false, pr⟩ hL (Nat.le_trans hql hL) (w2.drewN nq) k3)
  clear k2 k3 hr2 hx3 b0 b1 b2 b3 b4 b5 b6 hpk
  generalize w2.drewN nq = w4 at *
  go_wp2_with (first
    | (go_at_call 20; refine hrd.out.mono ?_; rintro e w3 ⟨rfl, k3, hx5⟩; have hr5 := Lib.hid (Lx.row hx5 hr3.out hgl); replace k3 := Lib.hid k3; replace hx5 := Lib.hid (hx4.out.trans hx5))
    | (refine wpList_store_mid rfl 47 _ _ rfl w.heap.size 0 #[.nilIface, .string (tx [46]), .int .i64 7] rfl rfl (rowIs_there hr5.out) (by kernel_rfl) (by simp [Value.oneCell']) ?_))
  exact bodyPost_ret (tok_ret rfl _ hr5.out rfl _ _ _) rfl (tok_none k3.out hx5.out (Nat.le_refl _) hgl)
end Go.Proofs.YtlcdhahnngfjhaaDoor

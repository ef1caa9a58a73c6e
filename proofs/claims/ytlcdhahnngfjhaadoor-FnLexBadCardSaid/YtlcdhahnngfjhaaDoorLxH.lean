/- The lexer's next token: letters. -/
import Derived.Test.YtlcdhahnngfjhaaDoorLxG
namespace Go.Proofs.YtlcdhahnngfjhaaDoor
open Go.Proofs Go.Shelf Go.Lib Go.ChangeShapes Go.WideShapes Go.ChangeAt Go.RowKit Go.PlainAid
set_option maxHeartbeats 2000000
set_option linter.unusedVariables false
set_option linter.unusedSimpArgs false
attribute [local go_sem] tx_list tx_size bt_tx

def isUp (c : Nat) : Bool := decide (65 ≤ c) && decide (c ≤ 90)
theorem up_all : (List.range 128).all (fun c => Lib.isUpperL c == isUp c) = true := by decide +kernel
theorem isUpper_any (c : Nat) (hc : c < 128) (w : World) (hT : LTabs w) : Calls Tryd.prog 33 #[.int .i32 (c : Int)] w fun e w' => e = .returned (.bool (isUp c)) ∧ w = w' :=
  (Any.unicode_IsUpper lays_Lays_n201 (by kernel_rfl) c w (by omega) hT.pr).mono (by
    rintro e w' ⟨rfl, rfl⟩
    have := eq_of_beq (List.all_eq_true.1 up_all c (List.mem_range.2 hc))
    exact ⟨by rw [this], rfl⟩)
theorem LTabs.drewN {w : World} (h : LTabs w) (n : Nat) : LTabs (w.drewN n) := h.below (B := w.heap.size) ⟨rfl, rfl, rfl, Nat.le_refl _, fun _ _ => rfl⟩ (Nat.le_refl _)
set_option maxRecDepth 100000 in
theorem next_piece0 (L : List UInt8) (hL : L.length ≤ 1000000) (hA : asciiL L) (p : Nat) (pr : Bool) (hp : p ≤ L.length) (hq : scan isWs L p = 0) (hC : 65 ≤ chAt L 0 ∧ chAt L 0 ≤ 90 ∧ chAt L 0 ≠ 79) :
    Ok L p ⟨false, false, false, pr⟩ ⟨!isPc (chAt L 0), [bAt L 0], 9⟩ (0 + 1) ⟨false, false, false, pr⟩ := by
  intro gl w hT h
  obtain ⟨k1, hx1, hr1⟩ := tok_laid h
  have hgl : w.heap.size ≠ gl := by have := World.rowIs.lt h; omega
  have hql : 0 ≤ L.length := by have := scan_le isWs L p hp; omega
  have hT1 := hT.lx h hx1
  go_enter Tryd.func19, Tryd.ntmps19
  go_upto_region 1 with (fail)
  generalize (w.alloc (.cells #[.nilIface, .string ⟨#[]⟩, .int .i64 0] 47)) = w1 at *
  have hsk := Lib.hid (skip_any gl L p _ hL hp w1 k1)
  rw [hq] at hsk
  replace hr1 := Lib.hid hr1
  clear h hT
  go_upto_region 2 with (go_at_call 21; refine hsk.out.mono ?_; rintro e w2 ⟨rfl, k2, hx2⟩)
  have hT2 := Lib.hid (hT1.lx k1 hx2)
  have b0 := k2.cells.1
  have b1 := k2.cells.2.1
  have b2 := k2.cells.2.2.1
  have b3 := k2.cells.2.2.2.1
  have b4 := k2.cells.2.2.2.2.1
  have b5 := k2.cells.2.2.2.2.2.1
  have b6 := k2.cells.2.2.2.2.2.2.1
  have hx3 := Lib.hid (hx1.trans hx2)
  have hr2 := Lib.hid (Lx.row hx2 hr1.out hgl)
  clear hsk hx1 hx2 hr1 k1 hT1
  have n40 : (((chAt L 0 : Nat) : Int) == 40) = false := by rw [beq_eq_false_iff_ne]; omega
  have n41 : (((chAt L 0 : Nat) : Int) == 41) = false := by rw [beq_eq_false_iff_ne]; omega
  have n91 : (((chAt L 0 : Nat) : Int) == 91) = false := by rw [beq_eq_false_iff_ne]; omega
  have n93 : (((chAt L 0 : Nat) : Int) == 93) = false := by rw [beq_eq_false_iff_ne]; omega
  have n34 : (((chAt L 0 : Nat) : Int) == 34) = false := by rw [beq_eq_false_iff_ne]; omega
  have n123 : (((chAt L 0 : Nat) : Int) == 123) = false := by rw [beq_eq_false_iff_ne]; omega
  have n125 : (((chAt L 0 : Nat) : Int) == 125) = false := by rw [beq_eq_false_iff_ne]; omega
  have n46 : (((chAt L 0 : Nat) : Int) == 46) = false := by rw [beq_eq_false_iff_ne]; omega
  have n120 : (((chAt L 0 : Nat) : Int) == 120) = false := by rw [beq_eq_false_iff_ne]; omega
  have n42 : (((chAt L 0 : Nat) : Int) == 42) = false := by rw [beq_eq_false_iff_ne]; omega
  have n45 : (((chAt L 0 : Nat) : Int) == 45) = false := by rw [beq_eq_false_iff_ne]; omega
  have n36 : (((chAt L 0 : Nat) : Int) == 36) = false := by rw [beq_eq_false_iff_ne]; omega
  have n33 : (((chAt L 0 : Nat) : Int) == 33) = false := by rw [beq_eq_false_iff_ne]; omega
  have n63 : (((chAt L 0 : Nat) : Int) == 63) = false := by rw [beq_eq_false_iff_ne]; omega
  have n79 : (((chAt L 0 : Nat) : Int) == 79) = false := by rw [beq_eq_false_iff_ne]; omega
  have n61 : (((chAt L 0 : Nat) : Int) == 61) = false := by rw [beq_eq_false_iff_ne]; omega
  have n43 : (((chAt L 0 : Nat) : Int) == 43) = false := by rw [beq_eq_false_iff_ne]; omega
  have n35 : (((chAt L 0 : Nat) : Int) == 35) = false := by rw [beq_eq_false_iff_ne]; omega
  have n48 : (((chAt L 0 : Nat) : Int) == 48) = false := by rw [beq_eq_false_iff_ne]; omega
  have n49 : (((chAt L 0 : Nat) : Int) == 49) = false := by rw [beq_eq_false_iff_ne]; omega
  have n50 : (((chAt L 0 : Nat) : Int) == 50) = false := by rw [beq_eq_false_iff_ne]; omega
  have n51 : (((chAt L 0 : Nat) : Int) == 51) = false := by rw [beq_eq_false_iff_ne]; omega
  have n52 : (((chAt L 0 : Nat) : Int) == 52) = false := by rw [beq_eq_false_iff_ne]; omega
  have n53 : (((chAt L 0 : Nat) : Int) == 53) = false := by rw [beq_eq_false_iff_ne]; omega
  have n54 : (((chAt L 0 : Nat) : Int) == 54) = false := by rw [beq_eq_false_iff_ne]; omega
  have n55 : (((chAt L 0 : Nat) : Int) == 55) = false := by rw [beq_eq_false_iff_ne]; omega
  have n56 : (((chAt L 0 : Nat) : Int) == 56) = false := by rw [beq_eq_false_iff_ne]; omega
  have n57 : (((chAt L 0 : Nat) : Int) == 57) = false := by rw [beq_eq_false_iff_ne]; omega
  have n0 : (((chAt L 0 : Nat) : Int) == 0) = false := by rw [beq_eq_false_iff_ne]; omega
  have hlt : isLt (chAt L 0) = true := by unfold isLt; simp; omega
  have hup : isUp (chAt L 0) = true := by unfold isUp; simp; omega
  have hqL : 0 < L.length := in_text (t := isUp) rfl hup
  have hre := Lib.hid (readPiece_any gl L 0 ⟨false, false, false, pr⟩ hL hql (hA 0))
  have hil := Lib.hid (fun w => isLetter_any (chAt L 0) w)
  have hiu := Lib.hid (fun w hw => isUpper_any (chAt L 0) (hA 0) w hw)
  rw [hlt] at hil
  rw [hup] at hiu
  have e32 : IntKind.i32.wrap ((chAt L 0 : Nat) : Int) = (chAt L 0 : Nat) := IntWalk.i32_in _ (by have := hA 0; omega)
  generalize hCC : chAt L 0 = C at *
  replace hCC := Lib.hid hCC
  have hCs : (C : Int) ≤ 90 := by omega
  clear hq hp hlt hup hC
  go_upto_region 111 with (first
    | (go_at_call 33; refine (hiu.out _ hT2.out).mono ?_; rintro e w' ⟨rfl, rfl⟩)
    | (go_at_call 25; refine (hil.out _).mono ?_; rintro e w' ⟨rfl, rfl⟩))
  go_quiet (fail)
  have k3 := World.rowIs.of_block (w' := w2.drewN nq) k2 rfl
  have hr3 := Lib.hid (Lx.row (Lx.drewN w2 nq) hr2.out hgl)
  have hx4 := Lib.hid (hx3.out.trans (Lx.drewN w2 nq))
  replace k3 := Lib.hid k3
  clear k2 hr2 hx3
  go_wp2_with (first
    | (go_at_call 32; refine (hre.out _ k3.out).mono ?_; rintro e w5 ⟨ev, rfl, hev, k5, hx5⟩; have hone := Lib.hid (hev.one [bAt L 0] 9); have hr5 := Lib.hid (Lx.row hx5 hr3.out hgl); have hfi := Lib.hid (tok_any k5 (hx4.out.trans hx5) (Nat.le_refl w.heap.size) hgl hev); clear hev k5 hx5)
    | (refine wpList_store_mid rfl 47 _ _ rfl w.heap.size 0 #[ev, .string (tx [bAt L 0]), .int .i64 9] rfl rfl (rowIs_there hr5.out) (by kernel_rfl) hone.out ?_))
  have hCo := hCC.out
  subst hCo
  exact bodyPost_ret (tok_ret rfl _ hr5.out rfl _ _ _) rfl hfi.out
set_option maxRecDepth 100000 in
theorem next_piece (L : List UInt8) (hL : L.length ≤ 1000000) (hA : asciiL L) (p m : Nat) (pr : Bool) (hp : p ≤ L.length) (hq : scan isWs L p = (m + 1)) (hC : 65 ≤ chAt L (m + 1) ∧ chAt L (m + 1) ≤ 90 ∧ chAt L (m + 1) ≠ 79) (hpv : chAt L m ≠ 61) :
    Ok L p ⟨false, false, false, pr⟩ ⟨!isPc (chAt L (m + 1)), [bAt L (m + 1)], 9⟩ ((m + 1) + 1) ⟨false, false, false, pr⟩ := by
  intro gl w hT h
  obtain ⟨k1, hx1, hr1⟩ := tok_laid h
  have hgl : w.heap.size ≠ gl := by have := World.rowIs.lt h; omega
  have hql : (m + 1) ≤ L.length := by have := scan_le isWs L p hp; omega
  have hT1 := hT.lx h hx1
  have hs : m < (tx L).size := by show m < L.length; omega
  have hv : ((((((tx L)[m]'hs).toNat : Nat) : Int) == 61)) = false := by rw [tx_at L m hs]; rw [beq_eq_false_iff_ne]; omega
  have hg1 : decide ((m : Int) + 1 > 0) = true := decide_eq_true (by omega)
  have hg2 : (0 : Int) < (m : Int) + 1 := by omega
  have e1 : IntKind.i64.wrap ((m : Int) + 1 - 1) = (m : Int) := by rw [show (m : Int) + 1 - 1 = m by omega]; exact IntWalk.i64_in _ (by omega)
  have hb : (m : Int) < (L.length : Int) := by omega
  go_enter Tryd.func19, Tryd.ntmps19
  go_upto_region 1 with (fail)
  generalize (w.alloc (.cells #[.nilIface, .string ⟨#[]⟩, .int .i64 0] 47)) = w1 at *
  have hsk := Lib.hid (skip_any gl L p _ hL hp w1 k1)
  rw [hq] at hsk
  replace hr1 := Lib.hid hr1
  clear h hT
  go_upto_region 2 with (go_at_call 21; refine hsk.out.mono ?_; rintro e w2 ⟨rfl, k2, hx2⟩)
  have hT2 := Lib.hid (hT1.lx k1 hx2)
  have b0 := k2.cells.1
  have b1 := k2.cells.2.1
  have b2 := k2.cells.2.2.1
  have b3 := k2.cells.2.2.2.1
  have b4 := k2.cells.2.2.2.2.1
  have b5 := k2.cells.2.2.2.2.2.1
  have b6 := k2.cells.2.2.2.2.2.2.1
  have hx3 := Lib.hid (hx1.trans hx2)
  have hr2 := Lib.hid (Lx.row hx2 hr1.out hgl)
  clear hsk hx1 hx2 hr1 k1 hT1
  have n40 : (((chAt L (m + 1) : Nat) : Int) == 40) = false := by rw [beq_eq_false_iff_ne]; omega
  have n41 : (((chAt L (m + 1) : Nat) : Int) == 41) = false := by rw [beq_eq_false_iff_ne]; omega
  have n91 : (((chAt L (m + 1) : Nat) : Int) == 91) = false := by rw [beq_eq_false_iff_ne]; omega
  have n93 : (((chAt L (m + 1) : Nat) : Int) == 93) = false := by rw [beq_eq_false_iff_ne]; omega
  have n34 : (((chAt L (m + 1) : Nat) : Int) == 34) = false := by rw [beq_eq_false_iff_ne]; omega
  have n123 : (((chAt L (m + 1) : Nat) : Int) == 123) = false := by rw [beq_eq_false_iff_ne]; omega
  have n125 : (((chAt L (m + 1) : Nat) : Int) == 125) = false := by rw [beq_eq_false_iff_ne]; omega
  have n46 : (((chAt L (m + 1) : Nat) : Int) == 46) = false := by rw [beq_eq_false_iff_ne]; omega
  have n120 : (((chAt L (m + 1) : Nat) : Int) == 120) = false := by rw [beq_eq_false_iff_ne]; omega
  have n42 : (((chAt L (m + 1) : Nat) : Int) == 42) = false := by rw [beq_eq_false_iff_ne]; omega
  have n45 : (((chAt L (m + 1) : Nat) : Int) == 45) = false := by rw [beq_eq_false_iff_ne]; omega
  have n36 : (((chAt L (m + 1) : Nat) : Int) == 36) = false := by rw [beq_eq_false_iff_ne]; omega
  have n33 : (((chAt L (m + 1) : Nat) : Int) == 33) = false := by rw [beq_eq_false_iff_ne]; omega
  have n63 : (((chAt L (m + 1) : Nat) : Int) == 63) = false := by rw [beq_eq_false_iff_ne]; omega
  have n79 : (((chAt L (m + 1) : Nat) : Int) == 79) = false := by rw [beq_eq_false_iff_ne]; omega
  have n61 : (((chAt L (m + 1) : Nat) : Int) == 61) = false := by rw [beq_eq_false_iff_ne]; omega
  have n43 : (((chAt L (m + 1) : Nat) : Int) == 43) = false := by rw [beq_eq_false_iff_ne]; omega
  have n35 : (((chAt L (m + 1) : Nat) : Int) == 35) = false := by rw [beq_eq_false_iff_ne]; omega
  have n48 : (((chAt L (m + 1) : Nat) : Int) == 48) = false := by rw [beq_eq_false_iff_ne]; omega
  have n49 : (((chAt L (m + 1) : Nat) : Int) == 49) = false := by rw [beq_eq_false_iff_ne]; omega
  have n50 : (((chAt L (m + 1) : Nat) : Int) == 50) = false := by rw [beq_eq_false_iff_ne]; omega
  have n51 : (((chAt L (m + 1) : Nat) : Int) == 51) = false := by rw [beq_eq_false_iff_ne]; omega
  have n52 : (((chAt L (m + 1) : Nat) : Int) == 52) = false := by rw [beq_eq_false_iff_ne]; omega
  have n53 : (((chAt L (m + 1) : Nat) : Int) == 53) = false := by rw [beq_eq_false_iff_ne]; omega
  have n54 : (((chAt L (m + 1) : Nat) : Int) == 54) = false := by rw [beq_eq_false_iff_ne]; omega
  have n55 : (((chAt L (m + 1) : Nat) : Int) == 55) = false := by rw [beq_eq_false_iff_ne]; omega
  have n56 : (((chAt L (m + 1) : Nat) : Int) == 56) = false := by rw [beq_eq_false_iff_ne]; omega
  have n57 : (((chAt L (m + 1) : Nat) : Int) == 57) = false := by rw [beq_eq_false_iff_ne]; omega
  have n0 : (((chAt L (m + 1) : Nat) : Int) == 0) = false := by rw [beq_eq_false_iff_ne]; omega
  have hlt : isLt (chAt L (m + 1)) = true := by unfold isLt; simp; omega
  have hup : isUp (chAt L (m + 1)) = true := by unfold isUp; simp; omega
  have hqL : (m + 1) < L.length := in_text (t := isUp) rfl hup
  have hre := Lib.hid (readPiece_any gl L (m + 1) ⟨false, false, false, pr⟩ hL hql (hA (m + 1)))
  have hil := Lib.hid (fun w => isLetter_any (chAt L (m + 1)) w)
  have hiu := Lib.hid (fun w hw => isUpper_any (chAt L (m + 1)) (hA (m + 1)) w hw)
  rw [hlt] at hil
  rw [hup] at hiu
  have e32 : IntKind.i32.wrap ((chAt L (m + 1) : Nat) : Int) = (chAt L (m + 1) : Nat) := IntWalk.i32_in _ (by have := hA (m + 1); omega)
  generalize hCC : chAt L (m + 1) = C at *
  replace hCC := Lib.hid hCC
  have hCs : (C : Int) ≤ 90 := by omega
  clear hq hp hlt hup hC
  go_upto_region 111 with (first
    | (go_at_call 33; refine (hiu.out _ hT2.out).mono ?_; rintro e w' ⟨rfl, rfl⟩)
    | (go_at_call 25; refine (hil.out _).mono ?_; rintro e w' ⟨rfl, rfl⟩))
  go_quiet (fail)
  have k3 := World.rowIs.of_block (w' := w2.drewN nq) k2 rfl
  have hr3 := Lib.hid (Lx.row (Lx.drewN w2 nq) hr2.out hgl)
  have hx4 := Lib.hid (hx3.out.trans (Lx.drewN w2 nq))
  replace k3 := Lib.hid k3
  clear k2 hr2 hx3
  go_wp2_with (first
    | (go_at_call 32; refine (hre.out _ k3.out).mono ?_; rintro e w5 ⟨ev, rfl, hev, k5, hx5⟩; have hone := Lib.hid (hev.one [bAt L (m + 1)] 9); have hr5 := Lib.hid (Lx.row hx5 hr3.out hgl); have hfi := Lib.hid (tok_any k5 (hx4.out.trans hx5) (Nat.le_refl w.heap.size) hgl hev); clear hev k5 hx5)
    | (refine wpList_store_mid rfl 47 _ _ rfl w.heap.size 0 #[ev, .string (tx [bAt L (m + 1)]), .int .i64 9] rfl rfl (rowIs_there hr5.out) (by kernel_rfl) hone.out ?_))
  have hCo := hCC.out
  subst hCo
  exact bodyPost_ret (tok_ret rfl _ hr5.out rfl _ _ _) rfl hfi.out
set_option maxRecDepth 100000 in
theorem next_promo (L : List UInt8) (hL : L.length ≤ 1000000) (hA : asciiL L) (p m : Nat) (pr : Bool) (hp : p ≤ L.length) (hq : scan isWs L p = (m + 1)) (hC : 65 ≤ chAt L (m + 1) ∧ chAt L (m + 1) ≤ 90 ∧ chAt L (m + 1) ≠ 79) (hpv : chAt L m = 61) :
    Ok L p ⟨false, false, false, pr⟩ ⟨!isPc (chAt L (m + 1)), [bAt L (m + 1)], 21⟩ ((m + 1) + 1) ⟨false, false, false, pr⟩ := by
  intro gl w hT h
  obtain ⟨k1, hx1, hr1⟩ := tok_laid h
  have hgl : w.heap.size ≠ gl := by have := World.rowIs.lt h; omega
  have hql : (m + 1) ≤ L.length := by have := scan_le isWs L p hp; omega
  have hT1 := hT.lx h hx1
  have hs : m < (tx L).size := by show m < L.length; omega
  have hv : ((((((tx L)[m]'hs).toNat : Nat) : Int) == 61)) = true := by rw [tx_at L m hs]; rw [hpv]; rfl
  have hg1 : decide ((m : Int) + 1 > 0) = true := decide_eq_true (by omega)
  have hg2 : (0 : Int) < (m : Int) + 1 := by omega
  have e1 : IntKind.i64.wrap ((m : Int) + 1 - 1) = (m : Int) := by rw [show (m : Int) + 1 - 1 = m by omega]; exact IntWalk.i64_in _ (by omega)
  have hb : (m : Int) < (L.length : Int) := by omega
  go_enter Tryd.func19, Tryd.ntmps19
  go_upto_region 1 with (fail)
  generalize (w.alloc (.cells #[.nilIface, .string ⟨#[]⟩, .int .i64 0] 47)) = w1 at *
  have hsk := Lib.hid (skip_any gl L p _ hL hp w1 k1)
  rw [hq] at hsk
  replace hr1 := Lib.hid hr1
  clear h hT
  go_upto_region 2 with (go_at_call 21; refine hsk.out.mono ?_; rintro e w2 ⟨rfl, k2, hx2⟩)
  have hT2 := Lib.hid (hT1.lx k1 hx2)
  have b0 := k2.cells.1
  have b1 := k2.cells.2.1
  have b2 := k2.cells.2.2.1
  have b3 := k2.cells.2.2.2.1
  have b4 := k2.cells.2.2.2.2.1
  have b5 := k2.cells.2.2.2.2.2.1
  have b6 := k2.cells.2.2.2.2.2.2.1
  have hx3 := Lib.hid (hx1.trans hx2)
  have hr2 := Lib.hid (Lx.row hx2 hr1.out hgl)
  clear hsk hx1 hx2 hr1 k1 hT1
  have n40 : (((chAt L (m + 1) : Nat) : Int) == 40) = false := by rw [beq_eq_false_iff_ne]; omega
  have n41 : (((chAt L (m + 1) : Nat) : Int) == 41) = false := by rw [beq_eq_false_iff_ne]; omega
  have n91 : (((chAt L (m + 1) : Nat) : Int) == 91) = false := by rw [beq_eq_false_iff_ne]; omega
  have n93 : (((chAt L (m + 1) : Nat) : Int) == 93) = false := by rw [beq_eq_false_iff_ne]; omega
  have n34 : (((chAt L (m + 1) : Nat) : Int) == 34) = false := by rw [beq_eq_false_iff_ne]; omega
  have n123 : (((chAt L (m + 1) : Nat) : Int) == 123) = false := by rw [beq_eq_false_iff_ne]; omega
  have n125 : (((chAt L (m + 1) : Nat) : Int) == 125) = false := by rw [beq_eq_false_iff_ne]; omega
  have n46 : (((chAt L (m + 1) : Nat) : Int) == 46) = false := by rw [beq_eq_false_iff_ne]; omega
  have n120 : (((chAt L (m + 1) : Nat) : Int) == 120) = false := by rw [beq_eq_false_iff_ne]; omega
  have n42 : (((chAt L (m + 1) : Nat) : Int) == 42) = false := by rw [beq_eq_false_iff_ne]; omega
  have n45 : (((chAt L (m + 1) : Nat) : Int) == 45) = false := by rw [beq_eq_false_iff_ne]; omega
  have n36 : (((chAt L (m + 1) : Nat) : Int) == 36) = false := by rw [beq_eq_false_iff_ne]; omega
  have n33 : (((chAt L (m + 1) : Nat) : Int) == 33) = false := by rw [beq_eq_false_iff_ne]; omega
  have n63 : (((chAt L (m + 1) : Nat) : Int) == 63) = false := by rw [beq_eq_false_iff_ne]; omega
  have n79 : (((chAt L (m + 1) : Nat) : Int) == 79) = false := by rw [beq_eq_false_iff_ne]; omega
  have n61 : (((chAt L (m + 1) : Nat) : Int) == 61) = false := by rw [beq_eq_false_iff_ne]; omega
  have n43 : (((chAt L (m + 1) : Nat) : Int) == 43) = false := by rw [beq_eq_false_iff_ne]; omega
  have n35 : (((chAt L (m + 1) : Nat) : Int) == 35) = false := by rw [beq_eq_false_iff_ne]; omega
  have n48 : (((chAt L (m + 1) : Nat) : Int) == 48) = false := by rw [beq_eq_false_iff_ne]; omega
  have n49 : (((chAt L (m + 1) : Nat) : Int) == 49) = false := by rw [beq_eq_false_iff_ne]; omega
  have n50 : (((chAt L (m + 1) : Nat) : Int) == 50) = false := by rw [beq_eq_false_iff_ne]; omega
  have n51 : (((chAt L (m + 1) : Nat) : Int) == 51) = false := by rw [beq_eq_false_iff_ne]; omega
  have n52 : (((chAt L (m + 1) : Nat) : Int) == 52) = false := by rw [beq_eq_false_iff_ne]; omega
  have n53 : (((chAt L (m + 1) : Nat) : Int) == 53) = false := by rw [beq_eq_false_iff_ne]; omega
  have n54 : (((chAt L (m + 1) : Nat) : Int) == 54) = false := by rw [beq_eq_false_iff_ne]; omega
  have n55 : (((chAt L (m + 1) : Nat) : Int) == 55) = false := by rw [beq_eq_false_iff_ne]; omega
  have n56 : (((chAt L (m + 1) : Nat) : Int) == 56) = false := by rw [beq_eq_false_iff_ne]; omega
  have n57 : (((chAt L (m + 1) : Nat) : Int) == 57) = false := by rw [beq_eq_false_iff_ne]; omega
  have n0 : (((chAt L (m + 1) : Nat) : Int) == 0) = false := by rw [beq_eq_false_iff_ne]; omega
  have hlt : isLt (chAt L (m + 1)) = true := by unfold isLt; simp; omega
  have hup : isUp (chAt L (m + 1)) = true := by unfold isUp; simp; omega
  have hqL : (m + 1) < L.length := in_text (t := isUp) rfl hup
  have hre := Lib.hid (readPromo_any gl L (m + 1) ⟨false, false, false, pr⟩ hL hql (hA (m + 1)))
  have hil := Lib.hid (fun w => isLetter_any (chAt L (m + 1)) w)
  have hiu := Lib.hid (fun w hw => isUpper_any (chAt L (m + 1)) (hA (m + 1)) w hw)
  rw [hlt] at hil
  rw [hup] at hiu
  have e32 : IntKind.i32.wrap ((chAt L (m + 1) : Nat) : Int) = (chAt L (m + 1) : Nat) := IntWalk.i32_in _ (by have := hA (m + 1); omega)
  generalize hCC : chAt L (m + 1) = C at *
  replace hCC := Lib.hid hCC
  have hCs : (C : Int) ≤ 90 := by omega
  clear hq hp hlt hup hC
  go_upto_region 111 with (first
    | (go_at_call 33; refine (hiu.out _ hT2.out).mono ?_; rintro e w' ⟨rfl, rfl⟩)
    | (go_at_call 25; refine (hil.out _).mono ?_; rintro e w' ⟨rfl, rfl⟩))
  go_quiet (fail)
  have k3 := World.rowIs.of_block (w' := w2.drewN nq) k2 rfl
  have hr3 := Lib.hid (Lx.row (Lx.drewN w2 nq) hr2.out hgl)
  have hx4 := Lib.hid (hx3.out.trans (Lx.drewN w2 nq))
  replace k3 := Lib.hid k3
  clear k2 hr2 hx3
  go_wp2_with (first
    | (go_at_call 37; refine (hre.out _ k3.out).mono ?_; rintro e w5 ⟨ev, rfl, hev, k5, hx5⟩; have hone := Lib.hid (hev.one [bAt L (m + 1)] 21); have hr5 := Lib.hid (Lx.row hx5 hr3.out hgl); have hfi := Lib.hid (tok_any k5 (hx4.out.trans hx5) (Nat.le_refl w.heap.size) hgl hev); clear hev k5 hx5)
    | (refine wpList_store_mid rfl 47 _ _ rfl w.heap.size 0 #[ev, .string (tx [bAt L (m + 1)]), .int .i64 21] rfl rfl (rowIs_there hr5.out) (by kernel_rfl) hone.out ?_))
  have hCo := hCC.out
  subst hCo
  exact bodyPost_ret (tok_ret rfl _ hr5.out rfl _ _ _) rfl hfi.out
end Go.Proofs.YtlcdhahnngfjhaaDoor

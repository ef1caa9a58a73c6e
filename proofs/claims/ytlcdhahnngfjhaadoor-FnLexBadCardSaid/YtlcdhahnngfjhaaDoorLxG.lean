/- The lexer's next token: the end, comments, a dot. -/
import Derived.Test.YtlcdhahnngfjhaaDoorLxF
namespace Go.Proofs.YtlcdhahnngfjhaaDoor
open Go.Proofs Go.Shelf Go.Lib Go.ChangeShapes Go.WideShapes Go.ChangeAt Go.RowKit Go.PlainAid
set_option maxHeartbeats 2000000
set_option linter.unusedVariables false
set_option linter.unusedSimpArgs false
attribute [local go_sem] tx_list tx_size bt_tx

set_option maxRecDepth 100000 in
theorem next_end (L : List UInt8) (hL : L.length ≤ 1000000) (p q : Nat) (pr : Bool) (hp : p ≤ L.length) (hq : scan isWs L p = q) (hch : chAt L q = 0) :
    Ok L p ⟨false, false, false, pr⟩ ⟨false, [], 0⟩ q ⟨false, false, false, pr⟩ := by
  intro gl w hT h
  obtain ⟨k1, hx1, hr1⟩ := tok_laid h
  have hgl : w.heap.size ≠ gl := by have := World.rowIs.lt h; omega
  have hql : q ≤ L.length := by have := scan_le isWs L p hp; omega
  have hT1 := hT.lx h hx1
  go_enter Tryd.func19, Tryd.ntmps19
  go_upto_region 1 with (fail)
  generalize (w.alloc (.cells #[.nilIface, .string ⟨#[]⟩, .int .i64 0] 47)) = w1 at *
  have hsk := Lib.hid (skip_any gl L p _ hL hp w1 k1)
  rw [hq] at hsk
  replace hr1 := Lib.hid hr1
  clear h hT
  go_upto_region 2 with (go_at_call 21; refine hsk.out.mono ?_; rintro e w2 ⟨rfl, k2, hx2⟩)
  have hT2 := Lib.hid (hT1.lx k1 hx2)
  have b0 := k2.cells.1
  have b1 := k2.cells.2.1
  have b2 := k2.cells.2.2.1
  have b3 := k2.cells.2.2.2.1
  have b4 := k2.cells.2.2.2.2.1
  have b5 := k2.cells.2.2.2.2.2.1
  have b6 := k2.cells.2.2.2.2.2.2.1
  have hx3 := Lib.hid (hx1.trans hx2)
  have hr2 := Lib.hid (Lx.row hx2 hr1.out hgl)
  clear hsk hx1 hx2 hr1 k1 hT1
  rw [hch] at b3
  replace k2 := Lib.hid k2
  clear hch hq hp
  go_wp2_with (refine wpList_store_mid rfl 47 _ _ rfl w.heap.size 0 #[.nilIface, .string (tx []), .int .i64 0] rfl rfl (rowIs_there hr2.out) (by kernel_rfl) (by simp [Value.oneCell']) ?_)
  exact bodyPost_ret (tok_ret rfl _ hr2.out rfl _ _ _) rfl (tok_none k2.out hx3.out (Nat.le_refl _) hgl)
theorem LexAt.comment {gl : Nat} {L : List UInt8} {p : Nat} {a b c d : Bool} {w : World} (h : LexAt gl L p ⟨a, b, c, d⟩ w) (x : Bool) : LexAt gl L p ⟨a, x, c, d⟩ (w.setCell ⟨gl, 5, none⟩ (.bool x)) :=
  (World.rowIs.set h 5 (.bool x)).congr fun j hj => by
    have : j = 0 ∨ j = 1 ∨ j = 2 ∨ j = 3 ∨ j = 4 ∨ j = 5 ∨ j = 6 ∨ j = 7 := by omega
    rcases this with rfl | rfl | rfl | rfl | rfl | rfl | rfl | rfl <;> rfl
set_option maxRecDepth 100000 in
theorem next_brace (L : List UInt8) (hL : L.length ≤ 1000000) (p q : Nat) (pr : Bool) (hp : p ≤ L.length) (hq : scan isWs L p = q) (hch : chAt L q = 123) :
    Ok L p ⟨false, false, false, pr⟩ ⟨false, [123], 11⟩ (q + 1) ⟨false, true, false, pr⟩ := by
  intro gl w hT h
  obtain ⟨k1, hx1, hr1⟩ := tok_laid h
  have hgl : w.heap.size ≠ gl := by have := World.rowIs.lt h; omega
  have hql : q ≤ L.length := by have := scan_le isWs L p hp; omega
  have hT1 := hT.lx h hx1
  go_enter Tryd.func19, Tryd.ntmps19
  go_upto_region 1 with (fail)
  generalize (w.alloc (.cells #[.nilIface, .string ⟨#[]⟩, .int .i64 0] 47)) = w1 at *
  have hsk := Lib.hid (skip_any gl L p _ hL hp w1 k1)
  rw [hq] at hsk
  replace hr1 := Lib.hid hr1
  clear h hT
  go_upto_region 2 with (go_at_call 21; refine hsk.out.mono ?_; rintro e w2 ⟨rfl, k2, hx2⟩)
  have hT2 := Lib.hid (hT1.lx k1 hx2)
  have b0 := k2.cells.1
  have b1 := k2.cells.2.1
  have b2 := k2.cells.2.2.1
  have b3 := k2.cells.2.2.2.1
  have b4 := k2.cells.2.2.2.2.1
  have b5 := k2.cells.2.2.2.2.2.1
  have b6 := k2.cells.2.2.2.2.2.2.1
  have hx3 := Lib.hid (hx1.trans hx2)
  have hr2 := Lib.hid (Lx.row hx2 hr1.out hgl)
  clear hsk hx1 hx2 hr1 k1 hT1
  rw [hch] at b3
  have hrd := Lib.hid (readChar_any gl L q _ hL (Nat.le_trans hql hL) w2 k2)
  clear hch hq hp k2
  go_upto_region 64 with (go_at_call 20; refine hrd.out.mono ?_; rintro e w3 ⟨rfl, k3, hx4⟩; have hr3 := Lib.hid (Lx.row hx4 hr2.out hgl); replace k3 := Lib.hid k3; replace hx4 := Lib.hid (hx3.out.trans hx4))
  have a5 := k3.out.cells.2.2.2.2.2.1
  have f5 := World.rowIs.frozen k3.out 5
  have k4 := Lib.hid (k3.out.comment true)
  have hx5 := Lib.hid (hx4.out.trans (Lx.set w3 5 (.bool true)))
  have hr4 := Lib.hid (Lx.row (Lx.set w3 5 (.bool true)) hr3.out hgl)
  clear k3 hr3 hx4
  go_upto_region 65 with (fail)
  generalize w3.setCell ⟨gl, 5, none⟩ (.bool true) = w4 at *
  go_wp2_with (refine wpList_store_mid rfl 47 _ _ rfl w.heap.size 0 #[.nilIface, .string (tx [123]), .int .i64 11] rfl rfl (rowIs_there hr4.out) (by kernel_rfl) (by simp [Value.oneCell']) ?_)
  exact bodyPost_ret (tok_ret rfl _ hr4.out rfl _ _ _) rfl (tok_none k4.out hx5.out (Nat.le_refl _) hgl)
set_option maxRecDepth 100000 in
theorem next_unbrace (L : List UInt8) (hL : L.length ≤ 1000000) (p q : Nat) (pr : Bool) (hp : p ≤ L.length) (hq : scan isWs L p = q) (hch : chAt L q = 125) :
    Ok L p ⟨false, true, false, pr⟩ ⟨false, [125], 12⟩ (q + 1) ⟨false, false, false, pr⟩ := by
  intro gl w hT h
  obtain ⟨k1, hx1, hr1⟩ := tok_laid h
  have hgl : w.heap.size ≠ gl := by have := World.rowIs.lt h; omega
  have hql : q ≤ L.length := by have := scan_le isWs L p hp; omega
  have hT1 := hT.lx h hx1
  go_enter Tryd.func19, Tryd.ntmps19
  go_upto_region 1 with (fail)
  generalize (w.alloc (.cells #[.nilIface, .string ⟨#[]⟩, .int .i64 0] 47)) = w1 at *
  have hsk := Lib.hid (skip_any gl L p _ hL hp w1 k1)
  rw [hq] at hsk
  replace hr1 := Lib.hid hr1
  clear h hT
  go_upto_region 2 with (go_at_call 21; refine hsk.out.mono ?_; rintro e w2 ⟨rfl, k2, hx2⟩)
  have hT2 := Lib.hid (hT1.lx k1 hx2)
  have b0 := k2.cells.1
  have b1 := k2.cells.2.1
  have b2 := k2.cells.2.2.1
  have b3 := k2.cells.2.2.2.1
  have b4 := k2.cells.2.2.2.2.1
  have b5 := k2.cells.2.2.2.2.2.1
  have b6 := k2.cells.2.2.2.2.2.2.1
  have hx3 := Lib.hid (hx1.trans hx2)
  have hr2 := Lib.hid (Lx.row hx2 hr1.out hgl)
  clear hsk hx1 hx2 hr1 k1 hT1
  rw [hch] at b3
  have f5 := World.rowIs.frozen k2 5
  have k4 := k2.comment false
  have hx5 := Lx.set (gl := gl) w2 5 (.bool false)
  have hr4 := Lib.hid (Lx.row hx5 hr2.out hgl)
  replace hx5 := Lib.hid (hx3.out.trans hx5)
  clear hch hq hp k2 hx3 hr2
  go_upto_region 17 with (fail)
  generalize w2.setCell ⟨gl, 5, none⟩ (.bool false) = w4 at *
  have hrd := Lib.hid (readChar_any gl L q _ hL (Nat.le_trans hql hL) w4 k4)
  clear k4
  go_wp2_with (first
    | (go_at_call 20; refine hrd.out.mono ?_; rintro e w3 ⟨rfl, k3, hx4⟩; have hr3 := Lib.hid (Lx.row hx4 hr4.out hgl); replace k3 := Lib.hid k3; replace hx4 := Lib.hid (hx5.out.trans hx4))
    | (refine wpList_store_mid rfl 47 _ _ rfl w.heap.size 0 #[.nilIface, .string (tx [125]), .int .i64 12] rfl rfl (rowIs_there hr3.out) (by kernel_rfl) (by simp [Value.oneCell']) ?_))
  exact bodyPost_ret (tok_ret rfl _ hr3.out rfl _ _ _) rfl (tok_none k3.out hx4.out (Nat.le_refl _) hgl)
set_option maxRecDepth 100000 in
theorem next_text (L : List UInt8) (hL : L.length ≤ 1000000) (hA : asciiL L) (p q E : Nat) (pr : Bool) (hp : p ≤ L.length) (hq : scan isWs L p = q) (hqE : q < E) (hE : E < L.length) (hi : ∀ j, q ≤ j → j < E → chAt L j ≠ 125 ∧ chAt L j ≠ 0 ∧ chAt L j ≠ 91) (he : chAt L E = 125) :
    Ok L p ⟨false, true, false, pr⟩ ⟨false, Lib.trimSpace (mid L q E), 13⟩ E ⟨false, true, false, pr⟩ := by
  intro gl w hT h
  obtain ⟨k1, hx1, hr1⟩ := tok_laid h
  have hgl : w.heap.size ≠ gl := by have := World.rowIs.lt h; omega
  have hql : q ≤ L.length := by have := scan_le isWs L p hp; omega
  have hT1 := hT.lx h hx1
  go_enter Tryd.func19, Tryd.ntmps19
  go_upto_region 1 with (fail)
  generalize (w.alloc (.cells #[.nilIface, .string ⟨#[]⟩, .int .i64 0] 47)) = w1 at *
  have hsk := Lib.hid (skip_any gl L p _ hL hp w1 k1)
  rw [hq] at hsk
  replace hr1 := Lib.hid hr1
  clear h hT
  go_upto_region 2 with (go_at_call 21; refine hsk.out.mono ?_; rintro e w2 ⟨rfl, k2, hx2⟩)
  have hT2 := Lib.hid (hT1.lx k1 hx2)
  have b0 := k2.cells.1
  have b1 := k2.cells.2.1
  have b2 := k2.cells.2.2.1
  have b3 := k2.cells.2.2.2.1
  have b4 := k2.cells.2.2.2.2.1
  have b5 := k2.cells.2.2.2.2.2.1
  have b6 := k2.cells.2.2.2.2.2.2.1
  have hx3 := Lib.hid (hx1.trans hx2)
  have hr2 := Lib.hid (Lx.row hx2 hr1.out hgl)
  clear hsk hx1 hx2 hr1 k1 hT1
  have n1 : (((chAt L q : Nat) : Int) == 125) = false := by have := (hi q (Nat.le_refl _) hqE).1; rw [beq_eq_false_iff_ne]; omega
  have hrt := Lib.hid (readText_any gl L q E _ hL hA hqE hE hi he w2 hT2.out k2)
  clear hq hp k2 hi
  generalize chAt L q = C at *
  go_wp2_with (first
    | (go_at_call 24; refine hrt.out.mono ?_; rintro e w3 ⟨ev, rfl, hev, k3, hx4⟩; have hone := Lib.hid (hev.one (Lib.trimSpace (mid L q E)) 13); have hr3 := Lib.hid (Lx.row hx4 hr2.out hgl); have hfi := Lib.hid (tok_any k3 (hx3.out.trans hx4) (Nat.le_refl w.heap.size) hgl hev); clear hev k3 hx4)
    | (refine wpList_store_mid rfl 47 _ _ rfl w.heap.size 0 #[ev, .string (tx (Lib.trimSpace (mid L q E))), .int .i64 13] rfl rfl (rowIs_there hr3.out) (by kernel_rfl) hone.out ?_))
  exact bodyPost_ret (tok_ret rfl _ hr3.out rfl _ _ _) rfl hfi.out
end Go.Proofs.YtlcdhahnngfjhaaDoor

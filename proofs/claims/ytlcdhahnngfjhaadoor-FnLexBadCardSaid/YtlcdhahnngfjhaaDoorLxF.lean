/- The lexer's next token: where one byte is one. -/
import Derived.Test.YtlcdhahnngfjhaaDoorLxE
namespace Go.Proofs.YtlcdhahnngfjhaaDoor
open Go.Proofs Go.Shelf Go.Lib Go.ChangeShapes Go.WideShapes Go.ChangeAt Go.RowKit Go.PlainAid
set_option maxHeartbeats 2000000
set_option linter.unusedVariables false
set_option linter.unusedSimpArgs false
attribute [local go_sem] tx_list tx_size bt_tx

/-- From a place on, the next token is this one, and behind it the lexer stands there. -/
def Ok (L : List UInt8) (p : Nat) (f : Fl) (k : Tk) (p' : Nat) (f' : Fl) : Prop :=
  ∀ (gl : Nat) (w : World), LTabs w → LexAt gl L p f w → Calls Tryd.prog 19 #[.pointer (some ⟨gl, 0, none⟩)] w fun e w' => TokP gl L k p' f' w e w'
set_option maxRecDepth 100000 in
theorem next_open (L : List UInt8) (hL : L.length ≤ 1000000) (p q : Nat) (pr : Bool) (hp : p ≤ L.length) (hq : scan isWs L p = q) (hch : chAt L q = 40) :
    Ok L p ⟨false, false, false, pr⟩ ⟨false, [40], 25⟩ (q + 1) ⟨false, false, false, pr⟩ := by
  intro gl w hT h
  obtain ⟨k1, hx1, hr1⟩ := tok_laid h
  have hgl : w.heap.size ≠ gl := by have := World.rowIs.lt h; omega
  have hql : q ≤ L.length := by have := scan_le isWs L p hp; omega
  go_enter Tryd.func19, Tryd.ntmps19
  go_upto_region 1 with (fail)
  generalize (w.alloc (.cells #[.nilIface, .string ⟨#[]⟩, .int .i64 0] 47)) = w1 at *
  have hsk := Lib.hid (skip_any gl L p _ hL hp w1 k1)
  rw [hq] at hsk
  replace hr1 := Lib.hid hr1
  clear k1 h hT
  go_upto_region 2 with (go_at_call 21; refine hsk.out.mono ?_; rintro e w2 ⟨rfl, k2, hx2⟩)
  have b3 := k2.cells.2.2.2.1
  rw [hch] at b3
  have b4 := k2.cells.2.2.2.2.1
  have b5 := k2.cells.2.2.2.2.2.1
  have b6 := k2.cells.2.2.2.2.2.2.1
  have hrd := Lib.hid (readChar_any gl L q _ hL (Nat.le_trans hql hL) w2 k2)
  have hx3 := Lib.hid (hx1.trans hx2)
  have hr2 := Lib.hid (Lx.row hx2 hr1.out hgl)
  clear hsk k2 hx1 hx2 hr1 hch hq hp
  go_wp2_with (first
    | (go_at_call 25; refine (isLetter_any _ _).mono ?_; rintro e w' ⟨rfl, rfl⟩)
    | (go_at_call 20; refine hrd.out.mono ?_; rintro e w3 ⟨rfl, k3, hx4⟩; have hr3 := Lib.hid (Lx.row hx4 hr2.out hgl); replace k3 := Lib.hid k3; replace hx4 := Lib.hid (hx3.out.trans hx4))
    | (refine wpList_store_mid rfl 47 _ _ rfl w.heap.size 0 #[.nilIface, .string (tx [40]), .int .i64 25] rfl rfl (rowIs_there hr3.out) (by kernel_rfl) (by simp [Value.oneCell']) ?_))
  exact bodyPost_ret (tok_ret rfl _ hr3.out rfl _ _ _) rfl (tok_none k3.out hx4.out (Nat.le_refl _) hgl)
set_option maxRecDepth 100000 in
theorem next_close (L : List UInt8) (hL : L.length ≤ 1000000) (p q : Nat) (pr : Bool) (hp : p ≤ L.length) (hq : scan isWs L p = q) (hch : chAt L q = 41) :
    Ok L p ⟨false, false, false, pr⟩ ⟨false, [41], 26⟩ (q + 1) ⟨false, false, false, pr⟩ := by
  intro gl w hT h
  obtain ⟨k1, hx1, hr1⟩ := tok_laid h
  have hgl : w.heap.size ≠ gl := by have := World.rowIs.lt h; omega
  have hql : q ≤ L.length := by have := scan_le isWs L p hp; omega
  go_enter Tryd.func19, Tryd.ntmps19
  go_upto_region 1 with (fail)
  generalize (w.alloc (.cells #[.nilIface, .string ⟨#[]⟩, .int .i64 0] 47)) = w1 at *
  have hsk := Lib.hid (skip_any gl L p _ hL hp w1 k1)
  rw [hq] at hsk
  replace hr1 := Lib.hid hr1
  clear k1 h hT
  go_upto_region 2 with (go_at_call 21; refine hsk.out.mono ?_; rintro e w2 ⟨rfl, k2, hx2⟩)
  have b3 := k2.cells.2.2.2.1
  rw [hch] at b3
  have b4 := k2.cells.2.2.2.2.1
  have b5 := k2.cells.2.2.2.2.2.1
  have b6 := k2.cells.2.2.2.2.2.2.1
  have hrd := Lib.hid (readChar_any gl L q _ hL (Nat.le_trans hql hL) w2 k2)
  have hx3 := Lib.hid (hx1.trans hx2)
  have hr2 := Lib.hid (Lx.row hx2 hr1.out hgl)
  clear hsk k2 hx1 hx2 hr1 hch hq hp
  go_wp2_with (first
    | (go_at_call 25; refine (isLetter_any _ _).mono ?_; rintro e w' ⟨rfl, rfl⟩)
    | (go_at_call 20; refine hrd.out.mono ?_; rintro e w3 ⟨rfl, k3, hx4⟩; have hr3 := Lib.hid (Lx.row hx4 hr2.out hgl); replace k3 := Lib.hid k3; replace hx4 := Lib.hid (hx3.out.trans hx4))
    | (refine wpList_store_mid rfl 47 _ _ rfl w.heap.size 0 #[.nilIface, .string (tx [41]), .int .i64 26] rfl rfl (rowIs_there hr3.out) (by kernel_rfl) (by simp [Value.oneCell']) ?_))
  exact bodyPost_ret (tok_ret rfl _ hr3.out rfl _ _ _) rfl (tok_none k3.out hx4.out (Nat.le_refl _) hgl)
set_option maxRecDepth 100000 in
theorem next_take (L : List UInt8) (hL : L.length ≤ 1000000) (p q : Nat) (pr : Bool) (hp : p ≤ L.length) (hq : scan isWs L p = q) (hch : chAt L q = 120) :
    Ok L p ⟨false, false, false, pr⟩ ⟨false, [120], 15⟩ (q + 1) ⟨false, false, false, pr⟩ := by
  intro gl w hT h
  obtain ⟨k1, hx1, hr1⟩ := tok_laid h
  have hgl : w.heap.size ≠ gl := by have := World.rowIs.lt h; omega
  have hql : q ≤ L.length := by have := scan_le isWs L p hp; omega
  go_enter Tryd.func19, Tryd.ntmps19
  go_upto_region 1 with (fail)
  generalize (w.alloc (.cells #[.nilIface, .string ⟨#[]⟩, .int .i64 0] 47)) = w1 at *
  have hsk := Lib.hid (skip_any gl L p _ hL hp w1 k1)
  rw [hq] at hsk
  replace hr1 := Lib.hid hr1
  clear k1 h hT
  go_upto_region 2 with (go_at_call 21; refine hsk.out.mono ?_; rintro e w2 ⟨rfl, k2, hx2⟩)
  have b3 := k2.cells.2.2.2.1
  rw [hch] at b3
  have b4 := k2.cells.2.2.2.2.1
  have b5 := k2.cells.2.2.2.2.2.1
  have b6 := k2.cells.2.2.2.2.2.2.1
  have hrd := Lib.hid (readChar_any gl L q _ hL (Nat.le_trans hql hL) w2 k2)
  have hx3 := Lib.hid (hx1.trans hx2)
  have hr2 := Lib.hid (Lx.row hx2 hr1.out hgl)
  clear hsk k2 hx1 hx2 hr1 hch hq hp
  go_wp2_with (first
    | (go_at_call 25; refine (isLetter_any _ _).mono ?_; rintro e w' ⟨rfl, rfl⟩)
    | (go_at_call 20; refine hrd.out.mono ?_; rintro e w3 ⟨rfl, k3, hx4⟩; have hr3 := Lib.hid (Lx.row hx4 hr2.out hgl); replace k3 := Lib.hid k3; replace hx4 := Lib.hid (hx3.out.trans hx4))
    | (refine wpList_store_mid rfl 47 _ _ rfl w.heap.size 0 #[.nilIface, .string (tx [120]), .int .i64 15] rfl rfl (rowIs_there hr3.out) (by kernel_rfl) (by simp [Value.oneCell']) ?_))
  exact bodyPost_ret (tok_ret rfl _ hr3.out rfl _ _ _) rfl (tok_none k3.out hx4.out (Nat.le_refl _) hgl)
set_option maxRecDepth 100000 in
theorem next_becomes (L : List UInt8) (hL : L.length ≤ 1000000) (p q : Nat) (pr : Bool) (hp : p ≤ L.length) (hq : scan isWs L p = q) (hch : chAt L q = 61) :
    Ok L p ⟨false, false, false, pr⟩ ⟨false, [61], 20⟩ (q + 1) ⟨false, false, false, pr⟩ := by
  intro gl w hT h
  obtain ⟨k1, hx1, hr1⟩ := tok_laid h
  have hgl : w.heap.size ≠ gl := by have := World.rowIs.lt h; omega
  have hql : q ≤ L.length := by have := scan_le isWs L p hp; omega
  go_enter Tryd.func19, Tryd.ntmps19
  go_upto_region 1 with (fail)
  generalize (w.alloc (.cells #[.nilIface, .string ⟨#[]⟩, .int .i64 0] 47)) = w1 at *
  have hsk := Lib.hid (skip_any gl L p _ hL hp w1 k1)
  rw [hq] at hsk
  replace hr1 := Lib.hid hr1
  clear k1 h hT
  go_upto_region 2 with (go_at_call 21; refine hsk.out.mono ?_; rintro e w2 ⟨rfl, k2, hx2⟩)
  have b3 := k2.cells.2.2.2.1
  rw [hch] at b3
  have b4 := k2.cells.2.2.2.2.1
  have b5 := k2.cells.2.2.2.2.2.1
  have b6 := k2.cells.2.2.2.2.2.2.1
  have hrd := Lib.hid (readChar_any gl L q _ hL (Nat.le_trans hql hL) w2 k2)
  have hx3 := Lib.hid (hx1.trans hx2)
  have hr2 := Lib.hid (Lx.row hx2 hr1.out hgl)
  clear hsk k2 hx1 hx2 hr1 hch hq hp
  go_wp2_with (first
    | (go_at_call 25; refine (isLetter_any _ _).mono ?_; rintro e w' ⟨rfl, rfl⟩)
    | (go_at_call 20; refine hrd.out.mono ?_; rintro e w3 ⟨rfl, k3, hx4⟩; have hr3 := Lib.hid (Lx.row hx4 hr2.out hgl); replace k3 := Lib.hid k3; replace hx4 := Lib.hid (hx3.out.trans hx4))
    | (refine wpList_store_mid rfl 47 _ _ rfl w.heap.size 0 #[.nilIface, .string (tx [61]), .int .i64 20] rfl rfl (rowIs_there hr3.out) (by kernel_rfl) (by simp [Value.oneCell']) ?_))
  exact bodyPost_ret (tok_ret rfl _ hr3.out rfl _ _ _) rfl (tok_none k3.out hx4.out (Nat.le_refl _) hgl)
set_option maxRecDepth 100000 in
theorem next_check (L : List UInt8) (hL : L.length ≤ 1000000) (p q : Nat) (pr : Bool) (hp : p ≤ L.length) (hq : scan isWs L p = q) (hch : chAt L q = 43) :
    Ok L p ⟨false, false, false, pr⟩ ⟨false, [43], 22⟩ (q + 1) ⟨false, false, false, pr⟩ := by
  intro gl w hT h
  obtain ⟨k1, hx1, hr1⟩ := tok_laid h
  have hgl : w.heap.size ≠ gl := by have := World.rowIs.lt h; omega
  have hql : q ≤ L.length := by have := scan_le isWs L p hp; omega
  go_enter Tryd.func19, Tryd.ntmps19
  go_upto_region 1 with (fail)
  generalize (w.alloc (.cells #[.nilIface, .string ⟨#[]⟩, .int .i64 0] 47)) = w1 at *
  have hsk := Lib.hid (skip_any gl L p _ hL hp w1 k1)
  rw [hq] at hsk
  replace hr1 := Lib.hid hr1
  clear k1 h hT
  go_upto_region 2 with (go_at_call 21; refine hsk.out.mono ?_; rintro e w2 ⟨rfl, k2, hx2⟩)
  have b3 := k2.cells.2.2.2.1
  rw [hch] at b3
  have b4 := k2.cells.2.2.2.2.1
  have b5 := k2.cells.2.2.2.2.2.1
  have b6 := k2.cells.2.2.2.2.2.2.1
  have hrd := Lib.hid (readChar_any gl L q _ hL (Nat.le_trans hql hL) w2 k2)
  have hx3 := Lib.hid (hx1.trans hx2)
  have hr2 := Lib.hid (Lx.row hx2 hr1.out hgl)
  clear hsk k2 hx1 hx2 hr1 hch hq hp
  go_wp2_with (first
    | (go_at_call 25; refine (isLetter_any _ _).mono ?_; rintro e w' ⟨rfl, rfl⟩)
    | (go_at_call 20; refine hrd.out.mono ?_; rintro e w3 ⟨rfl, k3, hx4⟩; have hr3 := Lib.hid (Lx.row hx4 hr2.out hgl); replace k3 := Lib.hid k3; replace hx4 := Lib.hid (hx3.out.trans hx4))
    | (refine wpList_store_mid rfl 47 _ _ rfl w.heap.size 0 #[.nilIface, .string (tx [43]), .int .i64 22] rfl rfl (rowIs_there hr3.out) (by kernel_rfl) (by simp [Value.oneCell']) ?_))
  exact bodyPost_ret (tok_ret rfl _ hr3.out rfl _ _ _) rfl (tok_none k3.out hx4.out (Nat.le_refl _) hgl)
set_option maxRecDepth 100000 in
theorem next_mate (L : List UInt8) (hL : L.length ≤ 1000000) (p q : Nat) (pr : Bool) (hp : p ≤ L.length) (hq : scan isWs L p = q) (hch : chAt L q = 35) :
    Ok L p ⟨false, false, false, pr⟩ ⟨false, [35], 23⟩ (q + 1) ⟨false, false, false, pr⟩ := by
  intro gl w hT h
  obtain ⟨k1, hx1, hr1⟩ := tok_laid h
  have hgl : w.heap.size ≠ gl := by have := World.rowIs.lt h; omega
  have hql : q ≤ L.length := by have := scan_le isWs L p hp; omega
  go_enter Tryd.func19, Tryd.ntmps19
  go_upto_region 1 with (fail)
  generalize (w.alloc (.cells #[.nilIface, .string ⟨#[]⟩, .int .i64 0] 47)) = w1 at *
  have hsk := Lib.hid (skip_any gl L p _ hL hp w1 k1)
  rw [hq] at hsk
  replace hr1 := Lib.hid hr1
  clear k1 h hT
  go_upto_region 2 with (go_at_call 21; refine hsk.out.mono ?_; rintro e w2 ⟨rfl, k2, hx2⟩)
  have b3 := k2.cells.2.2.2.1
  rw [hch] at b3
  have b4 := k2.cells.2.2.2.2.1
  have b5 := k2.cells.2.2.2.2.2.1
  have b6 := k2.cells.2.2.2.2.2.2.1
  have hrd := Lib.hid (readChar_any gl L q _ hL (Nat.le_trans hql hL) w2 k2)
  have hx3 := Lib.hid (hx1.trans hx2)
  have hr2 := Lib.hid (Lx.row hx2 hr1.out hgl)
  clear hsk k2 hx1 hx2 hr1 hch hq hp
  go_wp2_with (first
    | (go_at_call 25; refine (isLetter_any _ _).mono ?_; rintro e w' ⟨rfl, rfl⟩)
    | (go_at_call 20; refine hrd.out.mono ?_; rintro e w3 ⟨rfl, k3, hx4⟩; have hr3 := Lib.hid (Lx.row hx4 hr2.out hgl); replace k3 := Lib.hid k3; replace hx4 := Lib.hid (hx3.out.trans hx4))
    | (refine wpList_store_mid rfl 47 _ _ rfl w.heap.size 0 #[.nilIface, .string (tx [35]), .int .i64 23] rfl rfl (rowIs_there hr3.out) (by kernel_rfl) (by simp [Value.oneCell']) ?_))
  exact bodyPost_ret (tok_ret rfl _ hr3.out rfl _ _ _) rfl (tok_none k3.out hx4.out (Nat.le_refl _) hgl)
set_option maxRecDepth 100000 in
theorem next_shut (L : List UInt8) (hL : L.length ≤ 1000000) (p q : Nat) (pr : Bool) (hp : p ≤ L.length) (hq : scan isWs L p = q) (hch : chAt L q = 125) :
    Ok L p ⟨false, false, false, pr⟩ ⟨false, [125], 12⟩ (q + 1) ⟨false, false, false, pr⟩ := by
  intro gl w hT h
  obtain ⟨k1, hx1, hr1⟩ := tok_laid h
  have hgl : w.heap.size ≠ gl := by have := World.rowIs.lt h; omega
  have hql : q ≤ L.length := by have := scan_le isWs L p hp; omega
  go_enter Tryd.func19, Tryd.ntmps19
  go_upto_region 1 with (fail)
  generalize (w.alloc (.cells #[.nilIface, .string ⟨#[]⟩, .int .i64 0] 47)) = w1 at *
  have hsk := Lib.hid (skip_any gl L p _ hL hp w1 k1)
  rw [hq] at hsk
  replace hr1 := Lib.hid hr1
  clear k1 h hT
  go_upto_region 2 with (go_at_call 21; refine hsk.out.mono ?_; rintro e w2 ⟨rfl, k2, hx2⟩)
  have b3 := k2.cells.2.2.2.1
  rw [hch] at b3
  have b4 := k2.cells.2.2.2.2.1
  have b5 := k2.cells.2.2.2.2.2.1
  have b6 := k2.cells.2.2.2.2.2.2.1
  have hrd := Lib.hid (readChar_any gl L q _ hL (Nat.le_trans hql hL) w2 k2)
  have hx3 := Lib.hid (hx1.trans hx2)
  have hr2 := Lib.hid (Lx.row hx2 hr1.out hgl)
  clear hsk k2 hx1 hx2 hr1 hch hq hp
  go_wp2_with (first
    | (go_at_call 25; refine (isLetter_any _ _).mono ?_; rintro e w' ⟨rfl, rfl⟩)
    | (go_at_call 20; refine hrd.out.mono ?_; rintro e w3 ⟨rfl, k3, hx4⟩; have hr3 := Lib.hid (Lx.row hx4 hr2.out hgl); replace k3 := Lib.hid k3; replace hx4 := Lib.hid (hx3.out.trans hx4))
    | (refine wpList_store_mid rfl 47 _ _ rfl w.heap.size 0 #[.nilIface, .string (tx [125]), .int .i64 12] rfl rfl (rowIs_there hr3.out) (by kernel_rfl) (by simp [Value.oneCell']) ?_))
  exact bodyPost_ret (tok_ret rfl _ hr3.out rfl _ _ _) rfl (tok_none k3.out hx4.out (Nat.le_refl _) hgl)
end Go.Proofs.YtlcdhahnngfjhaaDoor

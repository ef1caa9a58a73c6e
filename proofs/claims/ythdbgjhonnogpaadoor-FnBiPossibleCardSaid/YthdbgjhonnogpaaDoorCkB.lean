/- Check, the program's side: a position laid from plain data. -/
import Derived.Test.YthdbgjhonnogpaaDoorCkA
import Derived.Test.YthdbgjhonnogpaaDoorMvM
namespace Go.Proofs.YthdbgjhonnogpaaDoor
open Go.ChangeShapes Go.WideShapes Go.ChangeAt Go.RowKit Plain
set_option maxHeartbeats 1000000
set_option linter.unusedVariables false
set_option linter.unusedSimpArgs false

theorem lastOf_range (f : Nat → Bool) : ∀ n, -1 ≤ lastOf f n ∧ lastOf f n < n
  | 0 => by simp [lastOf]
  | n + 1 => by
    have := lastOf_range f n
    unfold lastOf
    split <;> omega
/-- The side to move (1 white, 2 black) is in check, as the program reckons it. -/
def inCk (bb : Nat → BitVec 64) (wk bk t : Int) : Bool := if t = 1 then (if wk = -1 then false else sqAt1 bb wk.toNat) else (if bk = -1 then false else sqAt2 bb bk.toNat)
set_option maxRecDepth 100000 in
theorem isInCheck_any (gp gb : Nat) (bb : Nat → BitVec 64) (wk bk t : Int) (ht : t = 1 ∨ t = 2) (hwk : -1 ≤ wk ∧ wk < 64) (hbk : -1 ≤ bk ∧ bk < 64) (w : World) (hT : Tabs w) (hP : TabsP w) (hK : KTabs w)
    (hb : w.rowIs gb tBoard 17 (cellB (fullOf bb) wk bk)) (hp0 : w.cell? ⟨gp, 0, none⟩ = some (.pointer (some ⟨gb, 0, none⟩))) (hp5 : w.cell? ⟨gp, 5, none⟩ = some (.int .i8 t)) :
    Calls Tryd.prog 51 #[.pointer (some ⟨gp, 0, none⟩)] w fun e w' => e = .returned (.bool (inCk bb wk bk t)) ∧ Below w.heap.size w w' := by
  have c15 : w.cell? ⟨gb, 15, none⟩ = some (.int .i8 wk) := hb.cell (i := 15) (by omega)
  have c16 : w.cell? ⟨gb, 16, none⟩ = some (.int .i8 bk) := hb.cell (i := 16) (by omega)
  have hTu := Lib.hid (turn_any gp t w hp5)
  have hB1 : ∀ k : Nat, Below w.heap.size w (w.alloc (.cells #[.int .i8 (k : Int)] 51)) := fun k => (Below.refl _ _).alloc (Nat.le_refl _) _
  have hcp : ∀ (k : Nat) {a : Addr} {v : Value}, w.cell? a = some v → (w.alloc (.cells #[.int .i8 (k : Int)] 51)).cell? a = some v := fun k {a v} h => cell_below (hB1 k) h
  have hc1 := fun (k : Nat) (hk : k < 64) (h5 : w.cell? ⟨gp, 5, none⟩ = some (.int .i8 1)) => sqAtt1_any gp gb w.heap.size bb wk bk k hk 1 (w.alloc (.cells #[.int .i8 (k : Int)] 51)) (hT.below (hB1 k)) (hP.below (hB1 k)) (hK.below (hB1 k)) (hb.alloc _) (hcp k hp0) (hcp k h5) (cells_new rfl 0 _ rfl)
  have hc2 := fun (k : Nat) (hk : k < 64) (h5 : w.cell? ⟨gp, 5, none⟩ = some (.int .i8 2)) => sqAtt2_any gp gb w.heap.size bb wk bk k hk 1 (w.alloc (.cells #[.int .i8 (k : Int)] 51)) (hT.below (hB1 k)) (hP.below (hB1 k)) (hK.below (hB1 k)) (hb.alloc _) (hcp k hp0) (hcp k h5) (cells_new rfl 0 _ rfl)
  clear hcp hT hP hK hb
  have hS := Lib.hid (show inCk bb wk bk t = if t = 1 then (if wk = -1 then false else sqAt1 bb wk.toNat) else (if bk = -1 then false else sqAt2 bb bk.toNat) from rfl)
  generalize inCk bb wk bk t = S at *
  replace hB1 := Lib.hid hB1
  rcases ht with rfl | rfl
  · by_cases hn : wk = -1
    · have hSf : S = false := by rw [hS.out]; simp [hn]
      subst hn
      replace hSf := Lib.hid hSf
      go_enter Tryd.func51, Tryd.ntmps51
      go_wp2_with (go_at_call 58; refine hTu.out.mono ?_; rintro e w' ⟨rfl, rfl⟩)
      go_ret
      exact ⟨by rw [hSf.out]; rfl, Below.refl _ _⟩
    · obtain ⟨k, rfl⟩ : ∃ k : Nat, wk = k := ⟨wk.toNat, by omega⟩
      have hSk : S = sqAt1 bb k := by rw [hS.out, if_pos rfl, if_neg hn, Int.toNat_natCast]
      have hcc := Lib.hid (hc1 k (by omega) hp5)
      have hne : ((k : Int) == -1) = false := by simp
      replace hSk := Lib.hid hSk
      clear hc1 hc2
      go_enter Tryd.func51, Tryd.ntmps51
      go_wp2_with (first
        | (go_at_call 59; refine hcc.out.mono ?_; rintro e w2 ⟨rfl, hb2⟩)
        | (go_at_call 58; refine hTu.out.mono ?_; rintro e w' ⟨rfl, rfl⟩))
      go_ret
      exact ⟨by rw [hSk.out]; rfl, (hB1.out k).trans (hb2.mono (hB1.out k).size)⟩
  · by_cases hn : bk = -1
    · have hSf : S = false := by rw [hS.out]; simp [hn]
      subst hn
      replace hSf := Lib.hid hSf
      go_enter Tryd.func51, Tryd.ntmps51
      go_wp2_with (go_at_call 58; refine hTu.out.mono ?_; rintro e w' ⟨rfl, rfl⟩)
      go_ret
      exact ⟨by rw [hSf.out]; rfl, Below.refl _ _⟩
    · obtain ⟨k, rfl⟩ : ∃ k : Nat, bk = k := ⟨bk.toNat, by omega⟩
      have hSk : S = sqAt2 bb k := by rw [hS.out, if_neg (by decide), if_neg hn, Int.toNat_natCast]
      have hcc := Lib.hid (hc2 k (by omega) hp5)
      have hne : ((k : Int) == -1) = false := by simp
      replace hSk := Lib.hid hSk
      clear hc1 hc2
      go_enter Tryd.func51, Tryd.ntmps51
      go_wp2_with (first
        | (go_at_call 59; refine hcc.out.mono ?_; rintro e w2 ⟨rfl, hb2⟩)
        | (go_at_call 58; refine hTu.out.mono ?_; rintro e w' ⟨rfl, rfl⟩))
      go_ret
      exact ⟨by rw [hSk.out]; rfl, (hB1.out k).trans (hb2.mono (hB1.out k).size)⟩
/-- What a new position is. -/
def PosnP (gb : Nat) (tx : ByteArray) (half full t ep : Int) (ck : Bool) (w : World) (e : Ending) (w' : World) : Prop :=
  ∃ gp, e = .returned (.pointer (some ⟨gp, 0, none⟩)) ∧ w.heap.size ≤ gp ∧ w'.rowIs gp tPos 8 (posF gb tx half full t ep ck) ∧ Below w.heap.size w w'
set_option maxRecDepth 100000 in
theorem doorPosition_any (gb : Nat) (bb : Nat → BitVec 64) (wk bk t ep half full : Int) (tx : ByteArray) (ht : t = 1 ∨ t = 2) (hwk : -1 ≤ wk ∧ wk < 64) (hbk : -1 ≤ bk ∧ bk < 64) (w : World) (hT : Tabs w) (hP : TabsP w) (hK : KTabs w)
    (hb : w.rowIs gb tBoard 17 (cellB (fullOf bb) wk bk)) :
    Calls Tryd.prog 36 #[.pointer (some ⟨gb, 0, none⟩), .int .i8 t, .string tx, .int .i8 ep, .int .i64 half, .int .i64 full] w fun e w' => PosnP gb tx half full t ep (inCk bb wk bk t) w e w' := by
  have hr := World.rowIs_alloc w #[.pointer (some ⟨gb, 0, none⟩), .string tx, .slice none 0 0, .int .i64 half, .int .i64 full, .int .i8 t, .int .i8 ep, .bool false] tPos (posF gb tx half full t ep false) (fun j hj => by
    (have hj : j < 8 := hj); (have : j = 0 ∨ j = 1 ∨ j = 2 ∨ j = 3 ∨ j = 4 ∨ j = 5 ∨ j = 6 ∨ j = 7 := (by omega)); rcases this with rfl | rfl | rfl | rfl | rfl | rfl | rfl | rfl <;> rfl)
  have hB1 : Below w.heap.size w (w.alloc (.cells #[.pointer (some ⟨gb, 0, none⟩), .string tx, .slice none 0 0, .int .i64 half, .int .i64 full, .int .i8 t, .int .i8 ep, .bool false] tPos)) := (Below.refl _ _).alloc (Nat.le_refl _) _
  have hc := Lib.hid (isInCheck_any w.heap.size gb bb wk bk t ht hwk hbk (w.alloc (.cells #[.pointer (some ⟨gb, 0, none⟩), .string tx, .slice none 0 0, .int .i64 half, .int .i64 full, .int .i8 t, .int .i8 ep, .bool false] tPos)) (hT.below hB1) (hP.below hB1) (hK.below hB1) (hb.alloc _) (hr.cell (i := 0) (by simp)) (hr.cell (i := 5) (by simp)))
  generalize inCk bb wk bk t = S at *
  have hlt := hr.lt
  clear hb hT hP hK
  go_enter Tryd.func36, Tryd.ntmps36
  go_upto_region 2 with (fail)
  generalize (w.alloc (.cells #[.pointer (some ⟨gb, 0, none⟩), .string tx, .slice none 0 0, .int .i64 half, .int .i64 full, .int .i8 t, .int .i8 ep, .bool false] tPos)) = w1 at *
  replace hr := Lib.hid hr
  go_upto_region 3 with (go_at_call 51; refine hc.out.mono ?_; rintro e w2 ⟨rfl, hb2⟩; have hr2 := rowIs_below hr.out hb2 hlt; have c7 : w2.cell? ⟨w.heap.size, 7, none⟩ = some (.bool false) := hr2.cell (i := 7) (by simp); have f7 := hr2.frozen 7)
  have hr3 := Lib.hid ((hr2.set 7 (.bool S)).congr (g := posF gb tx half full t ep S) (fun i hi => by
    (have hi : i < 8 := hi); (have : i = 0 ∨ i = 1 ∨ i = 2 ∨ i = 3 ∨ i = 4 ∨ i = 5 ∨ i = 6 ∨ i = 7 := (by omega)); rcases this with rfl | rfl | rfl | rfl | rfl | rfl | rfl | rfl <;> rfl))
  have hb3 := Lib.hid ((hB1.trans (hb2.mono hB1.size)).setCell (p := ⟨w.heap.size, 7, none⟩) (Nat.le_refl _) (.bool S))
  generalize (w2.setCell ⟨w.heap.size, 7, none⟩ (.bool S)) = w3 at *
  go_wp2_with (fail)
  go_ret
  exact ⟨w.heap.size, rfl, Nat.le_refl _, hr3.out, hb3.out⟩
theorem inCheck_door (gp : Nat) (b : Bool) (w : World) (h : w.cell? ⟨gp, 7, none⟩ = some (.bool b)) :
    Calls Tryd.prog 17 #[.pointer (some ⟨gp, 0, none⟩)] w fun e w' => e = .returned (.bool b) ∧ w = w' := by
  go_enter Tryd.func17, Tryd.ntmps17
  go_wp2
  go_ret
  exact ⟨rfl, rfl⟩
end Go.Proofs.YthdbgjhonnogpaaDoor

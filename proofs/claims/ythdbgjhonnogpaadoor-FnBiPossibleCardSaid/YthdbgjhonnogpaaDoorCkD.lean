/- Check, the program's side: impl.CheckState, and the law's walk. -/
import Derived.Test.YthdbgjhonnogpaaDoorCkC
namespace Go.Proofs.YthdbgjhonnogpaaDoor
open Go.ChangeShapes Go.WideShapes Go.ChangeAt Go.RowKit Plain
set_option maxHeartbeats 1000000
set_option linter.unusedVariables false
set_option linter.unusedSimpArgs false

def laidC (w : World) (g : Nat → Int) : World := ((w.alloc (.cells (rowArr 69 fun i => .int .i64 (g i)) 24)).alloc (.cells #[.bool false] 4)).alloc (.cells #[.bool false] 4)
/-- What the program says of check. -/
def ckOf (g : Nat → Int) (c : Nat) : Bool := inCk (bbsOf g) (wkOf (bbsOf g) 64) (bkOf (bbsOf g) 64) ((c : Int) + 1)
theorem clo_CheckState (p0 p1 : Addr) (w : World) :
    CallsD Tryd.prog 16 #[.pointer (some p0), .pointer (some p1)] .returning w fun e u' w' => e = .returned (.tuple #[]) ∧ u' = .returning ∧ w' = w := by
  refine callsD_of_wpS Tryd.func16 rfl fun c₀ cs hu => ?_
  apply wpS_seq
  apply wpS_region
  simp [wpOpsS, go_sem, recoverD, hu, Tryd.ntmps16, Exit.thenS]
  refine wpS_cond (t := false) (by simp [Act.eval, Array.replicate]) ?_
  simp only [Bool.false_eq_true, if_false]
  refine wpS_of_wp (wp_skip ?_)
  cases c₀
  simp_all [bodyPostS, results, Tryd.results16]

set_option maxRecDepth 100000 in
theorem checkState_any (g : Nat → Int) (hV : VG g) (c : Nat) (hc1 : c ≤ 1) (hgc : g 64 = (c : Int)) (w : World) (hT : Tabs w) (hP : TabsP w) (hK : KTabs w) :
    Calls Tryd.prog 6 #[intRow 69 g] w fun e w' => e = .returned (.tuple #[.bool (ckOf g c), .bool true]) ∧ Below w.heap.size w w' := by
  have hmf := mkf Tryd.prog
  have hr : (laidC w g).rowIs w.heap.size 24 69 (fun i => .int .i64 (g i)) := ((rowIs_new w 24 69 (fun i => .int .i64 (g i))).alloc _).alloc _
  have hb : Below w.heap.size w (laidC w g) := (((Below.refl _ _).alloc (Nat.le_refl _) _).alloc (by simp) _).alloc (by simp; omega) _
  have hs : (laidC w g).heap.size = w.heap.size + 3 := by simp [laidC]
  have hpos := Lib.hid (position_any g hV c hc1 hgc (laidC w g) (hT.below hb) (hP.below hb) (hK.below hb))
  unfold intRow at hpos
  have hrow0 := rowIs_block hr
  have hone : ∀ (v : World), (v.alloc (.cells #[.bool false] 4)).rowIs v.heap.size 4 1 (fun _ => .bool false) := fun v => World.rowIs_alloc v #[.bool false] 4 (fun _ => .bool false) (fun i hi => by obtain rfl : i = 0 := (by simp at hi; omega); rfl)
  have hc1' : (laidC w g).rowIs (w.heap.size + 1) 4 1 (fun _ => .bool false) := by
    have := (hone (w.alloc (.cells (rowArr 69 fun i => .int .i64 (g i)) 24))).alloc (.cells #[.bool false] 4)
    simpa [laidC] using this
  have hc2 : (laidC w g).rowIs (w.heap.size + 1 + 1) 4 1 (fun _ => .bool false) := by
    have := hone ((w.alloc (.cells (rowArr 69 fun i => .int .i64 (g i)) 24)).alloc (.cells #[.bool false] 4))
    simpa [laidC] using this
  replace hb := Lib.hid hb
  have hCk := Lib.hid (show ckOf g c = inCk (bbsOf g) (wkOf (bbsOf g) 64) (bkOf (bbsOf g) 64) ((c : Int) + 1) from rfl)
  unfold LaidP at hpos
  rw [← hCk.out] at hpos
  generalize ckOf g c = CK at *
  clear hT hP hK hone hV hgc hr
  unfold intRow
  go_enter_defers Tryd.func6, Tryd.ntmps6
  go_wp2_with (first
    | (go_at_call 17; refine (inCheck_door gp CK w1 hc7).mono ?_; rintro e w3 ⟨rfl, rfl⟩)
    | (go_at_call 18; refine hpos.out.mono ?_; rintro e w1 ⟨gp, gb, rfl, hgp, hgb, hrb, hrp, hb1⟩; have hc7 : w1.cell? ⟨gp, 7, none⟩ = some (.bool CK) := hrp.cell (i := 7) (by omega); have k1 := (rowIs_below hc1' hb1 (by omega)).cell (i := 0) (by omega); have k2 := (rowIs_below hc2 hb1 (by omega)).cell (i := 0) (by omega); have f1 := (rowIs_below hc1' hb1 (by omega)).frozen 0; have f2 := (rowIs_below hc2 hb1 (by omega)).frozen 0; clear hrb hrp)
    | (refine wpList_load_row rfl 24 _ rfl w.heap.size rfl _ _ (0, 0) _ hrow0 Tryd.underlying24 rfl (by rw [infoPos', rowArr_size]) ?_))
  refine leaves_cons (f := 16) (args := #[.pointer (some ⟨w.heap.size + 1, 0, none⟩), .pointer (some ⟨w.heap.size + 2, 0, none⟩)]) (by simp) (by simp [go_sem]) ?_; refine (clo_CheckState _ _ _).mono ?_; rintro e u' w'' ⟨rfl, rfl, rfl⟩
  simp [Leaves, settle, results, Tryd.results6, asAddr, go_sem, k1, k2]
  exact (((hb.out.trans (hb1.mono (by omega))).setCell (by simp) _).setCell (by simp; omega) _)
set_option maxRecDepth 100000 in
theorem checkWalk (g : Nat → Int) (hEq : VG g → ∀ c : Nat, c ≤ 1 → g 64 = (c : Int) → ckOf g c = chkB g (g 64)) (W : World) (hT : Tabs W) (hP : TabsP W) (hK : KTabs W) :
    Calls Tryd.prog 3 #[intRow 69 g] W fun e w' => e = .returned (.bool true) ∧ Below W.heap.size W w' := by
  have hr := rowIs_new W 24 69 (fun i => .int .i64 (g i))
  have hBw : Below W.heap.size W (W.alloc (.cells (rowArr 69 fun i => .int .i64 (g i)) 24)) := (Below.refl _ _).alloc (Nat.le_refl _) _
  have hM := Lib.hid (fun w => mvRight_any g w)
  unfold intRow at hM
  unfold intRow
  go_enter Tryd.func3, Tryd.ntmps3
  go_upto_region 1 with (fail)
  generalize (W.alloc (.cells (rowArr 69 fun i => .int .i64 (g i)) 24)) = w1 at *
  have hblk := Lib.hid (rowIs_block hr)
  have hwl := hr.lt
  have hrr : ∀ wz, Below w1.heap.size w1 wz → wz.rowIs W.heap.size 24 69 (fun i => .int .i64 (g i)) := fun wz h => rowIs_below hr h hwl
  replace hrr := Lib.hid hrr
  clear hr
  go_wp2_with (first
    | (go_at_call 5; fail)
    | (refine wpList_load_row rfl 24 _ rfl W.heap.size rfl _ _ (0, 0) _ hblk.out Tryd.underlying24 rfl (by rw [infoPos', rowArr_size]) ?_))
  refine (hM.out _).mono ?_
  rintro e w2 ⟨⟨y, rfl, hy⟩, hb2⟩
  have hblk2 := Lib.hid (rowIs_block (hrr.out _ hb2))
  cases y
  · clear hy
    go_wp2_with (fail)
    go_ret
    exact ⟨rfl, hBw.trans (hb2.mono hBw.size)⟩
  · have hV := (hy rfl).1
    obtain ⟨c, hc1, hgc⟩ : ∃ c : Nat, c ≤ 1 ∧ g 64 = (c : Int) := by
      rcases hV.turn with h | h
      · exact ⟨0, by omega, h⟩
      · exact ⟨1, by omega, h⟩
    have hBW2 := hBw.trans (hb2.mono hBw.size)
    have hCS := Lib.hid (checkState_any g hV c hc1 hgc w2 (hT.below hBW2) (hP.below hBW2) (hK.below hBW2))
    have hIn := Lib.hid (fun w => inCheck_any g hV.board (by omega) (by omega) w)
    have he := hEq hV c hc1 hgc
    unfold intRow at hCS hIn
    rw [← he] at hIn
    clear he hEq hV hy hM
    generalize ckOf g c = CK at *
    go_wp2_with (first
      | (go_at_call 7; refine (hIn.out _).mono ?_; rintro e w4 ⟨rfl, hb4⟩)
      | (refine wpList_unguard (by rfl) (wpList_load_row rfl 24 _ rfl W.heap.size rfl _ _ (0, 0) _ hblk3.out Tryd.underlying24 rfl (by rw [infoPos', rowArr_size]) ?_))
      | (go_at_call 6; refine hCS.out.mono ?_; rintro e w3 ⟨rfl, hb3⟩; have hb3' := hb2.trans (hb3.mono hb2.size); have hblk3 := Lib.hid (rowIs_block (hrr.out _ hb3')))
      | (refine wpList_load_row rfl 24 _ rfl W.heap.size rfl _ _ (0, 0) _ hblk2.out Tryd.underlying24 rfl (by rw [infoPos', rowArr_size]) ?_))
    go_ret
    have hb5 := hb3'.trans (hb4.mono hb3'.size)
    exact ⟨by simp, hBw.trans (hb5.mono hBw.size)⟩
end Go.Proofs.YthdbgjhonnogpaaDoor

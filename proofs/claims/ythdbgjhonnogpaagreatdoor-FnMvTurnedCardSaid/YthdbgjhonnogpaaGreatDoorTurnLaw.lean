/- The turn is changed: the law's walk. -/
import Derived.Test.YthdbgjhonnogpaaGreatDoorTurn
import Derived.Test.YthdbgjhonnogpaaGreatDoorEqPos
namespace Go.Proofs.YthdbgjhonnogpaaGreatDoor
open Go.ChangeShapes Go.WideShapes Go.ChangeAt Go.RowKit Plain
set_option maxHeartbeats 1000000
set_option linter.unusedVariables false
set_option linter.unusedSimpArgs false

set_option maxRecDepth 100000 in
theorem mvTurned_any (g : Nat → Int) (W : World) (hT : Tabs W) (hP : TabsP W) (hK : KTabs W) :
    Calls Tryz.prog 3 #[intRow 69 g] W fun e w' => e = .returned (.bool true) ∧ Below W.heap.size W w' := by
  have hr := rowIs_new W 24 69 (fun i => .int .i64 (g i))
  have hBw : Below W.heap.size W (W.alloc (.cells (rowArr 69 fun i => .int .i64 (g i)) 24)) := (Below.refl _ _).alloc (Nat.le_refl _) _
  have hM := Lib.hid (fun w => mvRight_any g w)
  unfold intRow at hM
  unfold intRow
  go_enter Tryz.func3, Tryz.ntmps3
  go_upto_region 1 with (fail)
  have hs1 : (W.alloc (.cells (rowArr 69 fun i => .int .i64 (g i)) 24)).heap.size = W.heap.size + 1 := World.size_alloc _ _
  generalize (W.alloc (.cells (rowArr 69 fun i => .int .i64 (g i)) 24)) = w1 at *
  have hblk := Lib.hid (rowIs_block hr)
  have hwl := hr.lt
  have hrr : ∀ wz, Below w1.heap.size w1 wz → wz.rowIs W.heap.size 24 69 (fun i => .int .i64 (g i)) := fun wz h => rowIs_below hr h hwl
  replace hrr := Lib.hid hrr
  clear hr
  go_wp2_with (first
    | (go_at_call 5; fail)
    | (refine wpList_load_row rfl 24 _ rfl W.heap.size rfl _ _ (0, 0) _ hblk.out Tryz.underlying24 rfl (by rw [infoPos', rowArr_size]) ?_))
  refine (hM.out _).mono ?_
  rintro e w2 ⟨⟨y, rfl, hy⟩, hb2⟩
  have hblk2 := Lib.hid (rowIs_block (hrr.out _ hb2))
  cases y
  · clear hy
    go_wp2_with (fail)
    go_ret
    exact ⟨rfl, hBw.trans (hb2.mono hBw.size)⟩
  · have hV := (hy rfl).1
    obtain ⟨c, hc1, hgc⟩ : ∃ c : Nat, c ≤ 1 ∧ g 64 = (c : Int) := by
      rcases hV.turn with h | h
      · exact ⟨0, by omega, h⟩
      · exact ⟨1, by omega, h⟩
    have hBW2 := hBw.trans (hb2.mono hBw.size)
    have hCS := Lib.hid (implTurned_any g hV c hc1 hgc w2 (hT.below hBW2) (hP.below hBW2) (hK.below hBW2))
    have hEq := run_eqPos (gput g 64 (1 - (c : Int)))
    have hm : Tryz.prog.eqGuardType Tryz.prog.depth 24 = false := by kernel_rfl
    unfold intRow at hCS
    have hz : ∀ w3 : World, (w3.alloc (.cells Tryz.zeroCells24 24)).rowIs w3.heap.size 24 69 (fun _ => .int .i64 0) := fun w3 => by
      rw [zeroPos']; exact rowIs_new w3 _ _ _
    have hzb := Lib.hid (fun w3 => rowIs_block (hz w3))
    clear hV hy hM hT hP hK
    replace hgc := Lib.hid hgc
    replace hEq := Lib.hid hEq
    go_upto_region 4 with (first
      | (refine wpList_store_row rfl 24 _ _ rfl w3.heap.size _ rfl rfl _ _ (hzb.out w3) (by rw [infoPos', rowArr_size]) (by rw [rowArr_size, rowArr_size]) (intRow_one _ _) ?_)
      | (go_at_call 6; refine hCS.out.mono ?_; rintro e w3 ⟨rfl, hb3⟩; have hb3' := hb2.trans (hb3.mono hb2.size))
      | (refine wpList_load_row rfl 24 _ rfl W.heap.size rfl _ _ (0, 0) _ hblk2.out Tryz.underlying24 rfl (by rw [infoPos', rowArr_size]) ?_))
    have hQ := rowIs_setRow (hz w3) (fun i => .int .i64 (gput g 64 (1 - (c : Int)) i))
    have hb4 : Below w3.heap.size w3 ((w3.alloc (.cells Tryz.zeroCells24 24)).setRow w3.heap.size (rowArr 69 fun i => .int .i64 (gput g 64 (1 - (c : Int)) i))) := below_setRow ((Below.refl _ _).alloc (Nat.le_refl _) _) (Nat.le_refl _) _
    generalize ((w3.alloc (.cells Tryz.zeroCells24 24)).setRow w3.heap.size (rowArr 69 fun i => .int .i64 (gput g 64 (1 - (c : Int)) i))) = w4 at *
    have hb4' := hb3'.trans (hb4.mono hb3'.size)
    have hp4 := hrr.out _ hb4'
    have hne : w3.heap.size ≠ W.heap.size := by have := hb3'.size; omega
    have hBW4 := hBw.trans (hb4'.mono hBw.size)
    have c64 : w4.cell? ⟨W.heap.size, 64, none⟩ = some (.int .i64 (c : Int)) := by rw [← hgc.out]; exact hp4.cell (i := 64) (by omega)
    have f64 := hp4.frozen 64
    have hp5 := Lib.hid (out_put 64 (1 - (c : Int)) hp4)
    have hQ5 := Lib.hid (hQ.setOther (a := ⟨W.heap.size, 64, none⟩) (fun e => hne e) (.int .i64 (1 - (c : Int))))
    have hB5 := Lib.hid (hBW4.setCell (p := ⟨W.heap.size, 64, none⟩) (Nat.le_refl _) (.int .i64 (1 - (c : Int))))
    have e1 : IntKind.i64.wrap (1 - (c : Int)) = 1 - c := IntWalk.i64_in _ (by omega)
    clear hp4 hQ hb4 hb4' hb3 hb3' hBW4 hz hzb hCS
    go_upto_region 5 with (fail)
    generalize (w4.setCell ⟨W.heap.size, 64, none⟩ (.int .i64 (1 - (c : Int)))) = w5 at *
    clear c64 f64 e1
    have hblkQ := Lib.hid (rowIs_block hQ5.out)
    have hblkP := Lib.hid (rowIs_block hp5.out)
    have hEqo := hEq.out
    generalize gput g 64 (1 - (c : Int)) = G at *
    clear hQ5 hp5
    go_wp2_with (first
      | (refine wpList_unguard (by rfl) (wpList_load_row rfl 24 _ rfl w3.heap.size rfl _ _ (0, 0) _ hblkQ.out Tryz.underlying24 rfl (by rw [infoPos', rowArr_size]) ?_))
      | (refine wpList_unguard (by rfl) (wpList_load_row rfl 24 _ rfl W.heap.size rfl _ _ (0, 0) _ hblkP.out Tryz.underlying24 rfl (by rw [infoPos', rowArr_size]) ?_)))
    go_ret
    exact ⟨rfl, hB5.out⟩
end Go.Proofs.YthdbgjhonnogpaaGreatDoor

/- No move: the law's walk. -/
import Derived.Test.YthdbgjhonnogpaaGreatDoorNoneB
import Derived.Test.YthdbgjhonnogpaaGreatDoorEqPos
namespace Go.Proofs.YthdbgjhonnogpaaGreatDoor
open Go.ChangeShapes Go.WideShapes Go.ChangeAt Go.RowKit Plain
set_option maxHeartbeats 1000000
set_option linter.unusedVariables false
set_option linter.unusedSimpArgs false

set_option maxRecDepth 100000 in
theorem mvNone_any (g : Nat → Int) (W : World) (hT : Tabs W) (hP : TabsP W) (hK : KTabs W) :
    Calls Tryz.prog 4 #[intRow 69 g] W fun e w' => e = .returned (.bool true) ∧ Below W.heap.size W w' := by
  have hr := rowIs_new W 24 69 (fun i => .int .i64 (g i))
  have hBw : Below W.heap.size W (W.alloc (.cells (rowArr 69 fun i => .int .i64 (g i)) 24)) := (Below.refl _ _).alloc (Nat.le_refl _) _
  have hM := Lib.hid (fun w => mvRight_any g w)
  unfold intRow at hM
  unfold intRow
  go_enter Tryz.func4, Tryz.ntmps4
  go_upto_region 1 with (fail)
  have hs1 : (W.alloc (.cells (rowArr 69 fun i => .int .i64 (g i)) 24)).heap.size = W.heap.size + 1 := World.size_alloc _ _
  generalize (W.alloc (.cells (rowArr 69 fun i => .int .i64 (g i)) 24)) = w1 at *
  have hblk := Lib.hid (rowIs_block hr)
  have hwl := hr.lt
  have hrr : ∀ wz, Below w1.heap.size w1 wz → wz.rowIs W.heap.size 24 69 (fun i => .int .i64 (g i)) := fun wz h => rowIs_below hr h hwl
  replace hrr := Lib.hid hrr
  clear hr
  go_wp2_with (first
    | (go_at_call 5; fail)
    | (refine wpList_load_row rfl 24 _ rfl W.heap.size rfl _ _ (0, 0) _ hblk.out Tryz.underlying24 rfl (by rw [infoPos', rowArr_size]) ?_))
  refine (hM.out _).mono ?_
  rintro e w2 ⟨⟨y, rfl, hy⟩, hb2⟩
  have hblk2 := Lib.hid (rowIs_block (hrr.out _ hb2))
  cases y
  · clear hy
    go_wp2_with (fail)
    go_ret
    exact ⟨rfl, hBw.trans (hb2.mono hBw.size)⟩
  · obtain ⟨hV, h67, h68⟩ := hy rfl
    obtain ⟨c, hc1, hgc⟩ : ∃ c : Nat, c ≤ 1 ∧ g 64 = (c : Int) := by
      rcases hV.turn with h | h
      · exact ⟨0, by omega, h⟩
      · exact ⟨1, by omega, h⟩
    have hBW2 := hBw.trans (hb2.mono hBw.size)
    have hIn := Lib.hid (fun w => inCheck_any g hV.board (by omega) (by omega) w)
    unfold intRow at hIn
    have h670 := hV.half
    have h680 := hV.full
    have hCS := Lib.hid (fun w3 (h3 : Below W.heap.size W w3) => implNone_any g hV h67 h68 c hc1 hgc w3 (hT.below h3) (hP.below h3) (hK.below h3))
    unfold intRow at hCS
    have hEq := run_eqPos (noneG g c)
    have hm : Tryz.prog.eqGuardType Tryz.prog.depth 24 = false := by kernel_rfl
    have hz : ∀ w3 : World, (w3.alloc (.cells Tryz.zeroCells24 24)).rowIs w3.heap.size 24 69 (fun _ => .int .i64 0) := fun w3 => by
      rw [zeroPos']; exact rowIs_new w3 _ _ _
    have hzb := Lib.hid (fun w3 => rowIs_block (hz w3))
    have hGe : gput (gput (gput (gput g 68 (g 68 + (c : Int))) 64 (1 - (c : Int))) 66 (-1)) 67 (g 67 + 1) = noneG g c := rfl
    replace hGe := Lib.hid hGe
    clear hV hy hM hT hP hK
    replace hgc := Lib.hid hgc
    replace hEq := Lib.hid hEq
    generalize noneG g c = NG at *
    cases hck : chkB g (g 64)
    case true =>
      rw [hck] at hIn
      go_wp2_with (first
        | (go_at_call 7; refine (hIn.out _).mono ?_; rintro e w4 ⟨rfl, hb4⟩)
        | (refine wpList_unguard (by rfl) (wpList_load_row rfl 24 _ rfl W.heap.size rfl _ _ (0, 0) _ hblk2.out Tryz.underlying24 rfl (by rw [infoPos', rowArr_size]) ?_)))
      go_ret
      exact ⟨rfl, hBW2.trans (hb4.mono hBW2.size)⟩
    case false =>
    rw [hck] at hIn
    go_upto_region 3 with (first
      | (go_at_call 7; refine (hIn.out _).mono ?_; rintro e wk ⟨rfl, hbk⟩; have hb2k := hb2.trans (hbk.mono hb2.size); have hblkk := Lib.hid (rowIs_block (hrr.out _ hb2k)); have hBWk := hBW2.trans (hbk.mono hBW2.size))
      | (refine wpList_unguard (by rfl) (wpList_load_row rfl 24 _ rfl W.heap.size rfl _ _ (0, 0) _ hblk2.out Tryz.underlying24 rfl (by rw [infoPos', rowArr_size]) ?_)))
    clear hIn hck hblk2
    go_upto_region 4 with (first
      | (refine wpList_store_row rfl 24 _ _ rfl w3.heap.size _ rfl rfl _ _ (hzb.out w3) (by rw [infoPos', rowArr_size]) (by rw [rowArr_size, rowArr_size]) (intRow_one _ _) ?_)
      | (go_at_call 8; refine (hCS.out _ hBWk).mono ?_; rintro e w3 ⟨rfl, hb3⟩; have hb3' := hb2k.trans (hb3.mono hb2k.size))
      | (refine wpList_load_row rfl 24 _ rfl W.heap.size rfl _ _ (0, 0) _ hblkk.out Tryz.underlying24 rfl (by rw [infoPos', rowArr_size]) ?_))
    have hQ := rowIs_setRow (hz w3) (fun i => .int .i64 (NG i))
    have hb4 : Below w3.heap.size w3 ((w3.alloc (.cells Tryz.zeroCells24 24)).setRow w3.heap.size (rowArr 69 fun i => .int .i64 (NG i))) := below_setRow ((Below.refl _ _).alloc (Nat.le_refl _) _) (Nat.le_refl _) _
    generalize ((w3.alloc (.cells Tryz.zeroCells24 24)).setRow w3.heap.size (rowArr 69 fun i => .int .i64 (NG i))) = w4 at *
    have hb4' := hb3'.trans (hb4.mono hb3'.size)
    have hp4 := hrr.out _ hb4'
    have hne : w3.heap.size ≠ W.heap.size := by have := hb3'.size; omega
    have hBW4 := hBw.trans (hb4'.mono hBw.size)
    have hfl : -1000000 ≤ g 68 + (c : Int) ∧ g 68 + (c : Int) ≤ 1000000 := by omega
    have hhl : -1000000 ≤ g 67 + 1 ∧ g 67 + 1 ≤ 1000000 := by omega
    have e1 : IntKind.i64.wrap (1 - (c : Int)) = 1 - c := IntWalk.i64_in _ (by omega)
    have e2 : IntKind.i64.wrap (g 68 + (c : Int)) = g 68 + c := IntWalk.i64_in _ (by omega)
    have e3 : IntKind.i64.wrap (g 67 + 1) = g 67 + 1 := IntWalk.i64_in _ (by omega)
    clear hb4 hb4' hb3 hb3' hz hzb hCS hBW2 hBWk hb2k hbk
    generalize w3.heap.size = Q at *
    have c68 : w4.cell? ⟨W.heap.size, 68, none⟩ = some (.int .i64 (g 68)) := hp4.cell (i := 68) (by omega)
    have c64 : w4.cell? ⟨W.heap.size, 64, none⟩ = some (.int .i64 (c : Int)) := by rw [← hgc.out]; exact hp4.cell (i := 64) (by omega)
    have f68 := hp4.frozen 68
    have hp5 := Lib.hid (out_put 68 (g 68 + (c : Int)) hp4)
    have hQ5 := Lib.hid (hQ.setOther (a := ⟨W.heap.size, 68, none⟩) (fun e => hne e) (.int .i64 (g 68 + (c : Int))))
    have hB5 := Lib.hid (hBW4.setCell (p := ⟨W.heap.size, 68, none⟩) (Nat.le_refl _) (.int .i64 (g 68 + (c : Int))))
    clear hp4 hQ hBW4
    go_upto_region 5 with (fail)
    generalize (w4.setCell ⟨W.heap.size, 68, none⟩ (.int .i64 (g 68 + (c : Int)))) = x0 at *
    clear c68 c64 f68
    have hp4 := hp5.out
    have hQ := hQ5.out
    have hBW4 := hB5.out
    clear hp5 hQ5 hB5
    have c64 : x0.cell? ⟨W.heap.size, 64, none⟩ = some (.int .i64 (c : Int)) := by rw [← hgc.out]; exact hp4.cell (i := 64) (by omega)
    have f64 := hp4.frozen 64
    have hp5 := Lib.hid (out_put 64 (1 - (c : Int)) hp4)
    have hQ5 := Lib.hid (hQ.setOther (a := ⟨W.heap.size, 64, none⟩) (fun e => hne e) (.int .i64 (1 - (c : Int))))
    have hB5 := Lib.hid (hBW4.setCell (p := ⟨W.heap.size, 64, none⟩) (Nat.le_refl _) (.int .i64 (1 - (c : Int))))
    clear hp4 hQ hBW4
    go_upto_region 6 with (fail)
    generalize (x0.setCell ⟨W.heap.size, 64, none⟩ (.int .i64 (1 - (c : Int)))) = x1 at *
    clear c64 f64
    have hp4 := hp5.out
    have hQ := hQ5.out
    have hBW4 := hB5.out
    clear hp5 hQ5 hB5
    have c66 : x1.cell? ⟨W.heap.size, 66, none⟩ = some (.int .i64 (g 66)) := hp4.cell (i := 66) (by omega)
    have f66 := hp4.frozen 66
    have hp5 := Lib.hid (out_put 66 (-1) hp4)
    have hQ5 := Lib.hid (hQ.setOther (a := ⟨W.heap.size, 66, none⟩) (fun e => hne e) (.int .i64 (-1)))
    have hB5 := Lib.hid (hBW4.setCell (p := ⟨W.heap.size, 66, none⟩) (Nat.le_refl _) (.int .i64 (-1)))
    clear hp4 hQ hBW4
    go_upto_region 7 with (fail)
    generalize (x1.setCell ⟨W.heap.size, 66, none⟩ (.int .i64 (-1))) = x2 at *
    clear c66 f66
    have hp4 := hp5.out
    have hQ := hQ5.out
    have hBW4 := hB5.out
    clear hp5 hQ5 hB5
    have c67 : x2.cell? ⟨W.heap.size, 67, none⟩ = some (.int .i64 (g 67)) := hp4.cell (i := 67) (by omega)
    have f67 := hp4.frozen 67
    have hp5 := Lib.hid (out_put 67 (g 67 + 1) hp4)
    have hQ5 := Lib.hid (hQ.setOther (a := ⟨W.heap.size, 67, none⟩) (fun e => hne e) (.int .i64 (g 67 + 1)))
    have hB5 := Lib.hid (hBW4.setCell (p := ⟨W.heap.size, 67, none⟩) (Nat.le_refl _) (.int .i64 (g 67 + 1)))
    clear hp4 hQ hBW4
    go_upto_region 8 with (fail)
    generalize (x2.setCell ⟨W.heap.size, 67, none⟩ (.int .i64 (g 67 + 1))) = x3 at *
    clear c67 f67
    have hp4 := hp5.out
    have hQ := hQ5.out
    have hBW4 := hB5.out
    clear hp5 hQ5 hB5
    rw [hGe.out] at hp4
    have hQ5 := Lib.hid hQ
    have hp5 := Lib.hid hp4
    have hB5 := Lib.hid hBW4
    clear hQ hp4 hBW4
    have hblkQ := Lib.hid (rowIs_block hQ5.out)
    have hblkP := Lib.hid (rowIs_block hp5.out)
    have hEqo := hEq.out
    clear hQ5 hp5
    go_wp2_with (first
      | (refine wpList_unguard (by rfl) (wpList_load_row rfl 24 _ rfl Q rfl _ _ (0, 0) _ hblkQ.out Tryz.underlying24 rfl (by rw [infoPos', rowArr_size]) ?_))
      | (refine wpList_unguard (by rfl) (wpList_load_row rfl 24 _ rfl W.heap.size rfl _ _ (0, 0) _ hblkP.out Tryz.underlying24 rfl (by rw [infoPos', rowArr_size]) ?_)))
    go_ret
    exact ⟨rfl, hB5.out⟩
end Go.Proofs.YthdbgjhonnogpaaGreatDoor

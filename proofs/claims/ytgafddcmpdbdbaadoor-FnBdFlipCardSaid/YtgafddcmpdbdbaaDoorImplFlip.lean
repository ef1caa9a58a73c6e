/- The wrappers impl.Transpose and impl.Flip. -/
import Derived.Test.YtgafddcmpdbdbaaDoorFlip
namespace Go.Proofs.YtgafddcmpdbdbaaDoor
open Go.ChangeShapes Go.WideShapes Go.ChangeAt Go.RowKit Plain
set_option maxHeartbeats 4000000
set_option linter.unusedVariables false
set_option linter.unusedSimpArgs false

theorem loadRow {w : World} {b : Nat} {f : Nat → Int} (h : w.rowIs b 23 64 (fun i => .int .i64 (f i))) :
    (loadVar 23 ⟨b, 0, none⟩).run Tryd.prog w = .ok (intRow 64 f) w :=
  run_loadVar_row w b 23 23 _ (0, 0) _ (rowIs_block h) Tryd.underlying23 rfl (by rw [info64, rowArr_size])
theorem intRow_congr {f g : Nat → Int} (h : ∀ i, i < 64 → f i = g i) : intRow 64 f = intRow 64 g := by
  unfold intRow
  rw [rowArr_congr fun i hi => by rw [h i hi]]
/-- The blocks that a wrapper of boards lays first: its board, its result of a board and of a bool. -/
def laidW (w : World) (bd : Nat → Int) : World := ((w.alloc (.cells (rowArr 64 fun i => .int .i64 (bd i)) 23)).alloc (.cells zero64 23)).alloc (.cells #[.bool false] 4)
theorem laidW_facts (w : World) (bd : Nat → Int) : (laidW w bd).heap.size = w.heap.size + 3 ∧ (laidW w bd).rowIs w.heap.size 23 64 (fun i => .int .i64 (bd i)) ∧
    (laidW w bd).rowIs (w.heap.size + 1) 23 64 (fun _ => .int .i64 0) ∧ (laidW w bd).rowIs (w.heap.size + 1 + 1) 4 1 (fun _ => .bool false) ∧ Below w.heap.size w (laidW w bd) := by
  have hz : ∀ v : World, (v.alloc (.cells zero64 23)).rowIs v.heap.size 23 64 (fun _ => .int .i64 0) := fun v => by rw [zeroRow]; exact rowIs_new v _ _ _
  have h1 := rowIs_new w 23 64 (fun i => .int .i64 (bd i))
  have h2 := hz (w.alloc (.cells (rowArr 64 fun i => .int .i64 (bd i)) 23))
  rw [World.size_alloc] at h2
  refine ⟨by simp [laidW], (h1.alloc _).alloc _, h2.alloc _, ?_, (((Below.refl _ _).alloc (Nat.le_refl _) _).alloc (by simp) _).alloc (by simp; omega) _⟩
  have := World.rowIs_alloc ((w.alloc (.cells (rowArr 64 fun i => .int .i64 (bd i)) 23)).alloc (.cells zero64 23)) #[.bool false] 4 (fun _ => .bool false) (fun i hi => by obtain rfl : i = 0 := (by simp at hi; omega); rfl)
  simpa [laidW] using this

theorem clo_Transpose (p0 p1 : Addr) (w : World) :
    CallsD Tryd.prog 37 #[.pointer (some p0), .pointer (some p1)] .returning w fun e u' w' => e = .returned (.tuple #[]) ∧ u' = .returning ∧ w' = w := by
  refine callsD_of_wpS Tryd.func37 rfl fun c₀ cs hu => ?_
  apply wpS_seq
  apply wpS_region
  simp [wpOpsS, go_sem, recoverD, hu, Tryd.ntmps37, Exit.thenS]
  refine wpS_cond (t := false) (by simp [Act.eval, Array.replicate]) ?_
  simp only [Bool.false_eq_true, if_false]
  refine wpS_of_wp (wp_skip ?_)
  cases c₀
  simp_all [bodyPostS, results, Tryd.results37]

set_option maxRecDepth 100000 in
theorem implTranspose_any (bd : Nat → Int) (hbd : Right bd) (w : World) (hT : TabsP w) :
    Calls Tryd.prog 13 #[intRow 64 bd] w fun e w' => e = .returned (.tuple #[intRow 64 fun j => bd (trTo j), .bool true]) ∧ Below w.heap.size w w' := by
  have hmf := mkf Tryd.prog
  obtain ⟨hs, hr, hr1, hc, hb⟩ := laidW_facts w bd
  have hTw := hT.below hb
  have hall : ∀ W : World, (laidW w bd) = W → Calls Tryd.prog 38 #[intRow 64 bd] W fun e w' => BoardPost bd W e w' := fun W h => by rw [← h]; exact board_any bd hbd _ hTw
  have hz : ∀ i : Nat, (fun _ : Nat => (0 : Int)) i = 0 := fun _ => rfl
  have hrow0 := rowIs_block hr
  have hbW := Lib.hid hb
  clear hb hT
  unfold intRow
  go_enter_defers Tryd.func13, Tryd.ntmps13
  go_wp2_with (first
    | (refine wpList_load_row rfl 23 _ rfl w.heap.size rfl _ _ (0, 0) _ hrow0 Tryd.underlying23 rfl (by rw [info64, rowArr_size]) ?_)
    | (go_at_call 38; refine (board_any bd hbd (laidW w bd) hTw).mono ?_; rintro e w1 ⟨g, rfl, hg, hrow, hb1⟩; have hT1 := hTw.below hb1)
    | (go_at_call 39; refine (transpose_any g _ (bbsOf bd) w1 hrow (fun j hj => calcRow_low hj) hT1).mono ?_; rintro e w2 ⟨g2, rfl, hg2, hrow2, hb2⟩; have hT2 := hT1.below hb2)
    | (go_at_call 36; refine (plainBoard_any g2 _ _ w2 hrow2 (fun j hj => calcRow_low hj) hT2).mono ?_; rintro e w3 ⟨rfl, hb3⟩; have hbA := hb1.trans ((hb2.trans (hb3.mono hb2.size)).mono hb1.size); have hR3 := rowIs_block (rowIs_below hr1 hbA (by omega)); have hR3' := rowIs_below hr1 hbA (by omega); have hc3 := rowIs_below hc hbA (by omega); have hq := (fun cs => (rowIs_setRow_other (b' := w.heap.size + 1) hc3 (by omega) cs).cell (i := 0) (by omega)); have hq2 := (fun cs => (rowIs_setRow_other (b' := w.heap.size + 1) hc3 (by omega) cs).frozen 0); unfold intRow)
    | (refine wpList_store_row rfl 23 _ _ rfl (w.heap.size + 1) _ rfl rfl _ _ hR3 (by rw [info64, rowArr_size]) (by rw [rowArr_size, rowArr_size]) (intRow_one _ _) ?_))
  have hfin : ∀ R : Nat → Int, ((w3.setRow (w.heap.size + 1) (rowArr 64 fun i => .int .i64 (R i))).setCell ⟨w.heap.size + 1 + 1, 0, none⟩ (.bool true)).rowIs (w.heap.size + 1) 23 64 (fun i => .int .i64 (R i)) := fun R =>
    (rowIs_setRow hR3' _).setOther (a := ⟨w.heap.size + 1 + 1, 0, none⟩) (by simp) _
  have hcell : ∀ cs, ((w3.setRow (w.heap.size + 1) cs).setCell ⟨w.heap.size + 1 + 1, 0, none⟩ (.bool true)).cell? ⟨w.heap.size + 1 + 1, 0, none⟩ = some (.bool true) := fun cs => (rowIs_setRow_other (b' := w.heap.size + 1) hc3 (by omega) cs).set 0 (.bool true) |>.cell (i := 0) (by omega)
  refine leaves_cons (f := 37) (args := #[.pointer (some ⟨w.heap.size + 1, 0, none⟩), .pointer (some ⟨w.heap.size + 2, 0, none⟩)]) (by simp) (by simp [go_sem]) ?_; refine (clo_Transpose _ _ _).mono ?_; rintro e u' w'' ⟨rfl, rfl, rfl⟩
  have hl := loadRow (hfin (pieceAt (bbsOf fun j => pieceAt (bbsOf bd) (trTo j))))
  have hl2 : ∀ cs, (loadVar 4 ⟨w.heap.size + 1 + 1, 0, none⟩).run Tryd.prog ((w3.setRow (w.heap.size + 1) cs).setCell ⟨w.heap.size + 1 + 1, 0, none⟩ (.bool true)) = .ok (.bool true) ((w3.setRow (w.heap.size + 1) cs).setCell ⟨w.heap.size + 1 + 1, 0, none⟩ (.bool true)) := fun cs => by simp [go_sem, hcell]
  simp [Leaves, settle, results, Tryd.results13, asAddr, hl, hl2]
  refine ⟨?_, ?_⟩
  · have e := intRow_congr (f := pieceAt (bbsOf fun j => pieceAt (bbsOf bd) (trTo j))) (g := fun j => bd (trTo j)) fun i hi => by
      have h1 := fun j (hj : j < 64) => pieceAt_of bd (trTo j) (trTo_lt hj) (hbd _ (trTo_lt hj)).1 (hbd _ (trTo_lt hj)).2
      have h2 := hbd _ (trTo_lt hi)
      rw [pieceAt_of _ i hi (by simp only [h1 i hi]; exact h2.1) (by simp only [h1 i hi]; exact h2.2), h1 i hi]
    exact e
  · exact (below_setRow (hbW.out.trans (hbA.mono (by omega))) (by omega) _).setCell (by simp; omega) _
theorem clo_Flip (p0 p1 : Addr) (w : World) :
    CallsD Tryd.prog 41 #[.pointer (some p0), .pointer (some p1)] .returning w fun e u' w' => e = .returned (.tuple #[]) ∧ u' = .returning ∧ w' = w := by
  refine callsD_of_wpS Tryd.func41 rfl fun c₀ cs hu => ?_
  apply wpS_seq
  apply wpS_region
  simp [wpOpsS, go_sem, recoverD, hu, Tryd.ntmps41, Exit.thenS]
  refine wpS_cond (t := false) (by simp [Act.eval, Array.replicate]) ?_
  simp only [Bool.false_eq_true, if_false]
  refine wpS_of_wp (wp_skip ?_)
  cases c₀
  simp_all [bodyPostS, results, Tryd.results41]

set_option maxRecDepth 100000 in
theorem implFlip_any (bd : Nat → Int) (hbd : Right bd) (lr : Bool) (w : World) (hT : TabsP w) :
    Calls Tryd.prog 15 #[intRow 64 bd, .bool lr] w fun e w' => e = .returned (.tuple #[intRow 64 fun j => bd (flTo lr j), .bool true]) ∧ Below w.heap.size w w' := by
  have hmf := mkf Tryd.prog
  obtain ⟨hs, hr, hr1, hc, hb⟩ := laidW_facts w bd
  have hTw := hT.below hb
  have hall : ∀ W : World, (laidW w bd) = W → Calls Tryd.prog 38 #[intRow 64 bd] W fun e w' => BoardPost bd W e w' := fun W h => by rw [← h]; exact board_any bd hbd _ hTw
  have hz : ∀ i : Nat, (fun _ : Nat => (0 : Int)) i = 0 := fun _ => rfl
  have hrow0 := rowIs_block hr
  have hbW := Lib.hid hb
  clear hb hT
  cases lr
  · skip
    unfold intRow
    go_enter_defers Tryd.func15, Tryd.ntmps15
    go_wp2_with (first
      | (refine wpList_load_row rfl 23 _ rfl w.heap.size rfl _ _ (0, 0) _ hrow0 Tryd.underlying23 rfl (by rw [info64, rowArr_size]) ?_)
      | (go_at_call 38; refine (board_any bd hbd (laidW w bd) hTw).mono ?_; rintro e w1 ⟨g, rfl, hg, hrow, hb1⟩; have hT1 := hTw.below hb1)
      | (go_at_call 42; refine (flip_any g _ (bbsOf bd) w1 hrow (fun j hj => calcRow_low hj) hT1 false).mono ?_; rintro e w2 ⟨g2, rfl, hg2, hrow2, hb2⟩; have hT2 := hT1.below hb2)
      | (go_at_call 36; refine (plainBoard_any g2 _ _ w2 hrow2 (fun j hj => calcRow_low hj) hT2).mono ?_; rintro e w3 ⟨rfl, hb3⟩; have hbA := hb1.trans ((hb2.trans (hb3.mono hb2.size)).mono hb1.size); have hR3 := rowIs_block (rowIs_below hr1 hbA (by omega)); have hR3' := rowIs_below hr1 hbA (by omega); have hc3 := rowIs_below hc hbA (by omega); have hq := (fun cs => (rowIs_setRow_other (b' := w.heap.size + 1) hc3 (by omega) cs).cell (i := 0) (by omega)); have hq2 := (fun cs => (rowIs_setRow_other (b' := w.heap.size + 1) hc3 (by omega) cs).frozen 0); unfold intRow)
      | (refine wpList_store_row rfl 23 _ _ rfl (w.heap.size + 1) _ rfl rfl _ _ hR3 (by rw [info64, rowArr_size]) (by rw [rowArr_size, rowArr_size]) (intRow_one _ _) ?_))
    have hfin : ∀ R : Nat → Int, ((w3.setRow (w.heap.size + 1) (rowArr 64 fun i => .int .i64 (R i))).setCell ⟨w.heap.size + 1 + 1, 0, none⟩ (.bool true)).rowIs (w.heap.size + 1) 23 64 (fun i => .int .i64 (R i)) := fun R =>
      (rowIs_setRow hR3' _).setOther (a := ⟨w.heap.size + 1 + 1, 0, none⟩) (by simp) _
    have hcell : ∀ cs, ((w3.setRow (w.heap.size + 1) cs).setCell ⟨w.heap.size + 1 + 1, 0, none⟩ (.bool true)).cell? ⟨w.heap.size + 1 + 1, 0, none⟩ = some (.bool true) := fun cs => (rowIs_setRow_other (b' := w.heap.size + 1) hc3 (by omega) cs).set 0 (.bool true) |>.cell (i := 0) (by omega)
    refine leaves_cons (f := 41) (args := #[.pointer (some ⟨w.heap.size + 1, 0, none⟩), .pointer (some ⟨w.heap.size + 2, 0, none⟩)]) (by simp) (by simp [go_sem]) ?_; refine (clo_Flip _ _ _).mono ?_; rintro e u' w'' ⟨rfl, rfl, rfl⟩
    have hl := loadRow (hfin (pieceAt (bbsOf fun j => pieceAt (bbsOf bd) (flTo false j))))
    have hl2 : ∀ cs, (loadVar 4 ⟨w.heap.size + 1 + 1, 0, none⟩).run Tryd.prog ((w3.setRow (w.heap.size + 1) cs).setCell ⟨w.heap.size + 1 + 1, 0, none⟩ (.bool true)) = .ok (.bool true) ((w3.setRow (w.heap.size + 1) cs).setCell ⟨w.heap.size + 1 + 1, 0, none⟩ (.bool true)) := fun cs => by simp [go_sem, hcell]
    simp [Leaves, settle, results, Tryd.results15, asAddr, hl, hl2]
    refine ⟨?_, ?_⟩
    · have e := intRow_congr (f := pieceAt (bbsOf fun j => pieceAt (bbsOf bd) (flTo false j))) (g := fun j => bd (flTo false j)) fun i hi => by
        have h1 := fun j (hj : j < 64) => pieceAt_of bd (flTo false j) (flTo_lt false hj) (hbd _ (flTo_lt false hj)).1 (hbd _ (flTo_lt false hj)).2
        have h2 := hbd _ (flTo_lt false hi)
        rw [pieceAt_of _ i hi (by simp only [h1 i hi]; exact h2.1) (by simp only [h1 i hi]; exact h2.2), h1 i hi]
      exact e
    · exact (below_setRow (hbW.out.trans (hbA.mono (by omega))) (by omega) _).setCell (by simp; omega) _
  · skip
    unfold intRow
    go_enter_defers Tryd.func15, Tryd.ntmps15
    go_wp2_with (first
      | (refine wpList_load_row rfl 23 _ rfl w.heap.size rfl _ _ (0, 0) _ hrow0 Tryd.underlying23 rfl (by rw [info64, rowArr_size]) ?_)
      | (go_at_call 38; refine (board_any bd hbd (laidW w bd) hTw).mono ?_; rintro e w1 ⟨g, rfl, hg, hrow, hb1⟩; have hT1 := hTw.below hb1)
      | (go_at_call 42; refine (flip_any g _ (bbsOf bd) w1 hrow (fun j hj => calcRow_low hj) hT1 true).mono ?_; rintro e w2 ⟨g2, rfl, hg2, hrow2, hb2⟩; have hT2 := hT1.below hb2)
      | (go_at_call 36; refine (plainBoard_any g2 _ _ w2 hrow2 (fun j hj => calcRow_low hj) hT2).mono ?_; rintro e w3 ⟨rfl, hb3⟩; have hbA := hb1.trans ((hb2.trans (hb3.mono hb2.size)).mono hb1.size); have hR3 := rowIs_block (rowIs_below hr1 hbA (by omega)); have hR3' := rowIs_below hr1 hbA (by omega); have hc3 := rowIs_below hc hbA (by omega); have hq := (fun cs => (rowIs_setRow_other (b' := w.heap.size + 1) hc3 (by omega) cs).cell (i := 0) (by omega)); have hq2 := (fun cs => (rowIs_setRow_other (b' := w.heap.size + 1) hc3 (by omega) cs).frozen 0); unfold intRow)
      | (refine wpList_store_row rfl 23 _ _ rfl (w.heap.size + 1) _ rfl rfl _ _ hR3 (by rw [info64, rowArr_size]) (by rw [rowArr_size, rowArr_size]) (intRow_one _ _) ?_))
    have hfin : ∀ R : Nat → Int, ((w3.setRow (w.heap.size + 1) (rowArr 64 fun i => .int .i64 (R i))).setCell ⟨w.heap.size + 1 + 1, 0, none⟩ (.bool true)).rowIs (w.heap.size + 1) 23 64 (fun i => .int .i64 (R i)) := fun R =>
      (rowIs_setRow hR3' _).setOther (a := ⟨w.heap.size + 1 + 1, 0, none⟩) (by simp) _
    have hcell : ∀ cs, ((w3.setRow (w.heap.size + 1) cs).setCell ⟨w.heap.size + 1 + 1, 0, none⟩ (.bool true)).cell? ⟨w.heap.size + 1 + 1, 0, none⟩ = some (.bool true) := fun cs => (rowIs_setRow_other (b' := w.heap.size + 1) hc3 (by omega) cs).set 0 (.bool true) |>.cell (i := 0) (by omega)
    refine leaves_cons (f := 41) (args := #[.pointer (some ⟨w.heap.size + 1, 0, none⟩), .pointer (some ⟨w.heap.size + 2, 0, none⟩)]) (by simp) (by simp [go_sem]) ?_; refine (clo_Flip _ _ _).mono ?_; rintro e u' w'' ⟨rfl, rfl, rfl⟩
    have hl := loadRow (hfin (pieceAt (bbsOf fun j => pieceAt (bbsOf bd) (flTo true j))))
    have hl2 : ∀ cs, (loadVar 4 ⟨w.heap.size + 1 + 1, 0, none⟩).run Tryd.prog ((w3.setRow (w.heap.size + 1) cs).setCell ⟨w.heap.size + 1 + 1, 0, none⟩ (.bool true)) = .ok (.bool true) ((w3.setRow (w.heap.size + 1) cs).setCell ⟨w.heap.size + 1 + 1, 0, none⟩ (.bool true)) := fun cs => by simp [go_sem, hcell]
    simp [Leaves, settle, results, Tryd.results15, asAddr, hl, hl2]
    refine ⟨?_, ?_⟩
    · have e := intRow_congr (f := pieceAt (bbsOf fun j => pieceAt (bbsOf bd) (flTo true j))) (g := fun j => bd (flTo true j)) fun i hi => by
        have h1 := fun j (hj : j < 64) => pieceAt_of bd (flTo true j) (flTo_lt true hj) (hbd _ (flTo_lt true hj)).1 (hbd _ (flTo_lt true hj)).2
        have h2 := hbd _ (flTo_lt true hi)
        rw [pieceAt_of _ i hi (by simp only [h1 i hi]; exact h2.1) (by simp only [h1 i hi]; exact h2.2), h1 i hi]
      exact e
    · exact (below_setRow (hbW.out.trans (hbA.mono (by omega))) (by omega) _).setCell (by simp; omega) _
end Go.Proofs.YtgafddcmpdbdbaaDoor

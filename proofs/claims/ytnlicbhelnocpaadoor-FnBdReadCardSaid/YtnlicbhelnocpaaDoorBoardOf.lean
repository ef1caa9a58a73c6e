/- Bytes that are no board: the wrapper impl.BoardOf at 96 zero bytes and at bytes of another number. -/
import Derived.Test.YtnlicbhelnocpaaDoorBin
namespace Go.Proofs.YtnlicbhelnocpaaDoor
open Go.ChangeShapes Go.WideShapes Go.ChangeAt Go.RowKit Plain
set_option maxHeartbeats 4000000
set_option linter.unusedVariables false
set_option linter.unusedSimpArgs false

theorem loadRow' {w : World} {b : Nat} {f : Nat → Int} (h : w.rowIs b 23 64 (fun i => .int .i64 (f i))) :
    (loadVar 23 ⟨b, 0, none⟩).run Tryd.prog w = .ok (intRow 64 f) w :=
  run_loadVar_row w b 23 23 _ (0, 0) _ (rowIs_block h) Tryd.underlying23 rfl (by rw [info64, rowArr_size])
/-- The blocks of a wrapper's results: a board and a bool. -/
def resW (w : World) : World := (w.alloc (.cells zero64 23)).alloc (.cells #[.bool false] 4)
theorem resW_facts (w : World) : (resW w).heap.size = w.heap.size + 2 ∧ (resW w).rowIs w.heap.size 23 64 (fun _ => .int .i64 0) ∧ (resW w).rowIs (w.heap.size + 1) 4 1 (fun _ => .bool false) ∧ Below w.heap.size w (resW w) := by
  have hz : (w.alloc (.cells zero64 23)).rowIs w.heap.size 23 64 (fun _ => .int .i64 0) := by rw [zeroRow]; exact rowIs_new w _ _ _
  refine ⟨by simp [resW], hz.alloc _, ?_, ((Below.refl _ _).alloc (Nat.le_refl _) _).alloc (by simp) _⟩
  have := World.rowIs_alloc (w.alloc (.cells zero64 23)) #[.bool false] 4 (fun _ => .bool false) (fun i hi => by obtain rfl : i = 0 := (by simp at hi; omega); rfl)
  simpa [resW] using this
theorem clo_BoardOf (p0 p1 : Addr) (w : World) :
    CallsD Tryd.prog 29 #[.pointer (some p0), .pointer (some p1)] .returning w fun e u' w' => e = .returned (.tuple #[]) ∧ u' = .returning ∧ w' = w := by
  refine callsD_of_wpS Tryd.func29 rfl fun c₀ cs hu => ?_
  apply wpS_seq
  apply wpS_region
  simp [wpOpsS, go_sem, recoverD, hu, Tryd.ntmps29, Exit.thenS]
  refine wpS_cond (t := false) (by simp [Act.eval, Array.replicate]) ?_
  simp only [Bool.false_eq_true, if_false]
  refine wpS_of_wp (wp_skip ?_)
  cases c₀
  simp_all [bodyPostS, results, Tryd.results29]

theorem unmarshal_wrong (p : Value) (a : Option Addr) (n c : Nat) (hn : ((n : Int) != 96) = true) (w : World) :
    Calls Tryd.prog 30 #[p, .slice a n c] w fun e w' => (∃ g, e = .returned (.iface 111 (.pointer (some ⟨g, 0, none⟩)))) ∧ Below w.heap.size w w' := by
  go_enter Tryd.func30, Tryd.ntmps30
  go_wp2
  go_ret
  exact ⟨⟨_, rfl⟩, (Below.refl _ _).alloc (Nat.le_refl _) _⟩
theorem zero64_one : zero64.all (·.oneCell') = true := by rw [zeroRow]; exact intRow_one 64 fun _ => 0
theorem zero64_size : zero64.size = 64 := by rw [zeroRow, rowArr_size]
set_option maxRecDepth 100000 in
theorem boardOf_wrong (a : Option Addr) (n c : Nat) (hn : ((n : Int) != 96) = true) (w : World) :
    Calls Tryd.prog 9 #[.slice a n c] w fun e w' => (∃ v : Nat → Int, e = .returned (.tuple #[intRow 64 v, .bool false])) ∧ Below w.heap.size w w' := by
  have hmf := mkf Tryd.prog
  obtain ⟨hs, hr1, hc, hb⟩ := resW_facts w
  have hbB : Below (resW w).heap.size (resW w) ((resW w).alloc (.cells zeroCells tBoard)) := (Below.refl _ _).alloc (Nat.le_refl _) _
  have hn := Lib.hid hn
  have hb := Lib.hid hb
  go_enter_defers Tryd.func9, Tryd.ntmps9
  go_wp2_with (first
    | (go_at_call 30; refine (unmarshal_wrong _ _ _ _ hn.out ((resW w).alloc (.cells zeroCells tBoard))).mono ?_; rintro e w1 ⟨⟨ge, rfl⟩, hb1⟩; have hbA := hbB.trans (hb1.mono (by simp)); have hR3 := rowIs_block (rowIs_below hr1 hbA (by omega)); have hR3' := rowIs_below hr1 hbA (by omega); have hc3 := rowIs_below hc hbA (by omega); have hq := (fun cs => (rowIs_setRow_other (b' := w.heap.size) hc3 (by omega) cs).cell (i := 0) (by omega)); have hq2 := (fun cs => (rowIs_setRow_other (b' := w.heap.size) hc3 (by omega) cs).frozen 0))
    | (refine wpList_store_row rfl 23 _ _ rfl w.heap.size _ rfl rfl _ _ hR3 (by rw [info64]; rfl) (by rw [rowArr_size]; rfl) (by kernel_rfl) ?_; change wpList _ _ _ _ _ (w1.setRow w.heap.size zero64); rw [zeroRow]))
  have hfin : ∀ R : Nat → Int, ((w1.setRow w.heap.size (rowArr 64 fun i => .int .i64 (R i))).setCell ⟨w.heap.size + 1, 0, none⟩ (.bool false)).rowIs w.heap.size 23 64 (fun i => .int .i64 (R i)) := fun R =>
    (rowIs_setRow hR3' _).setOther (a := ⟨w.heap.size + 1, 0, none⟩) (by simp) _
  have hcell : ∀ cs, ((w1.setRow w.heap.size cs).setCell ⟨w.heap.size + 1, 0, none⟩ (.bool false)).cell? ⟨w.heap.size + 1, 0, none⟩ = some (.bool false) := fun cs => (rowIs_setRow_other (b' := w.heap.size) hc3 (by omega) cs).set 0 (.bool false) |>.cell (i := 0) (by omega)
  refine leaves_cons (f := 29) (args := #[.pointer (some ⟨w.heap.size, 0, none⟩), .pointer (some ⟨w.heap.size + 1, 0, none⟩)]) (by simp) (by simp [go_sem]) ?_; refine (clo_BoardOf _ _ _).mono ?_; rintro e u' w'' ⟨rfl, rfl, rfl⟩
  have hl := loadRow' (hfin (fun _ => 0))
  have hl2 : ∀ cs, (loadVar 4 ⟨w.heap.size + 1, 0, none⟩).run Tryd.prog ((w1.setRow w.heap.size cs).setCell ⟨w.heap.size + 1, 0, none⟩ (.bool false)) = .ok (.bool false) ((w1.setRow w.heap.size cs).setCell ⟨w.heap.size + 1, 0, none⟩ (.bool false)) := fun cs => by simp [go_sem, hcell]
  simp [Leaves, settle, results, Tryd.results9, asAddr, hl, hl2]
  refine ⟨⟨_, rfl⟩, ?_⟩
  exact (below_setRow (hb.out.trans (hbA.mono (by omega))) (by omega) _).setCell (by simp) _
set_option maxRecDepth 100000 in
theorem boardOf_zero (b : Nat) (w : World) (hb0 : b < w.heap.size) (hz : ∀ j, j < 96 → w.cell? ⟨b, j, none⟩ = some (.int .u8 0)) (hT : TabsP w) :
    Calls Tryd.prog 9 #[.slice (some ⟨b, 0, none⟩) 96 96] w fun e w' => (∃ v : Nat → Int, e = .returned (.tuple #[intRow 64 v, .bool true])) ∧ Below w.heap.size w w' := by
  have hmf := mkf Tryd.prog
  obtain ⟨hs, hr1, hc, hb⟩ := resW_facts w
  have hbB : Below (resW w).heap.size (resW w) ((resW w).alloc (.cells zeroCells tBoard)) := (Below.refl _ _).alloc (Nat.le_refl _) _
  have hbW : Below w.heap.size w ((resW w).alloc (.cells zeroCells tBoard)) := hb.trans (hbB.mono (by omega))
  have hBin : Bin ((resW w).alloc (.cells zeroCells tBoard)) (w.heap.size + 1 + 1) b ((resW w).alloc (.cells zeroCells tBoard)) := by
    refine ⟨?_, fun j hj => cell_below hbW (hz j hj), World.grownBy.refl _ _, by have := hbW.size; omega, by omega⟩
    have := rowZero (resW w)
    rwa [hs] at this
  have hT1 := hT.below hb
  have hb := Lib.hid hb
  clear hz hT
  go_enter_defers Tryd.func9, Tryd.ntmps9
  go_wp2_with (first
    | (go_at_call 31; refine (plainBoard_any (w.heap.size + 1 + 1) _ (fun _ => 0#64) w1 hr4 (fun j hj => calcRow_low hj) hT4).mono ?_; rintro e w3 ⟨rfl, hb3⟩; have hbA := hbX.trans (hb3.mono (by have := hbX.size; omega)); have hR3 := rowIs_block (rowIs_below hr1 hbA (by omega)); have hR3' := rowIs_below hr1 hbA (by omega); have hc3 := rowIs_below hc hbA (by omega); have hq := (fun cs => (rowIs_setRow_other (b' := w.heap.size) hc3 (by omega) cs).cell (i := 0) (by omega)); have hq2 := (fun cs => (rowIs_setRow_other (b' := w.heap.size) hc3 (by omega) cs).frozen 0); unfold intRow)
    | (go_at_call 30; refine (unmarshal_one (w.heap.size + 1 + 1) b ((resW w).alloc (.cells zeroCells tBoard)) ((resW w).alloc (.cells zeroCells tBoard)) hBin).mono ?_; rintro e w1 ⟨rfl, hr4, hg4⟩; have hbX := hbB.grown hg4 (by simp) (by intro r hr; cases hr; omega); have hT4 := hT1.below hbX)
    | (refine wpList_store_row rfl 23 _ _ rfl w.heap.size _ rfl rfl _ _ hR3 (by rw [info64, rowArr_size]) (by rw [rowArr_size, rowArr_size]) (intRow_one _ _) ?_))
  have hfin : ∀ R : Nat → Int, ((w3.setRow w.heap.size (rowArr 64 fun i => .int .i64 (R i))).setCell ⟨w.heap.size + 1, 0, none⟩ (.bool true)).rowIs w.heap.size 23 64 (fun i => .int .i64 (R i)) := fun R =>
    (rowIs_setRow hR3' _).setOther (a := ⟨w.heap.size + 1, 0, none⟩) (by simp) _
  have hcell : ∀ cs, ((w3.setRow w.heap.size cs).setCell ⟨w.heap.size + 1, 0, none⟩ (.bool true)).cell? ⟨w.heap.size + 1, 0, none⟩ = some (.bool true) := fun cs => (rowIs_setRow_other (b' := w.heap.size) hc3 (by omega) cs).set 0 (.bool true) |>.cell (i := 0) (by omega)
  refine leaves_cons (f := 29) (args := #[.pointer (some ⟨w.heap.size, 0, none⟩), .pointer (some ⟨w.heap.size + 1, 0, none⟩)]) (by simp) (by simp [go_sem]) ?_; refine (clo_BoardOf _ _ _).mono ?_; rintro e u' w'' ⟨rfl, rfl, rfl⟩
  have hl := loadRow' (hfin (pieceAt fun _ => 0#64))
  have hl2 : ∀ cs, (loadVar 4 ⟨w.heap.size + 1, 0, none⟩).run Tryd.prog ((w3.setRow w.heap.size cs).setCell ⟨w.heap.size + 1, 0, none⟩ (.bool true)) = .ok (.bool true) ((w3.setRow w.heap.size cs).setCell ⟨w.heap.size + 1, 0, none⟩ (.bool true)) := fun cs => by simp [go_sem, hcell]
  simp [Leaves, settle, results, Tryd.results9, asAddr, hl, hl2]
  refine ⟨⟨_, rfl⟩, ?_⟩
  exact (below_setRow (hb.out.trans (hbA.mono (by omega))) (by omega) _).setCell (by simp) _
end Go.Proofs.YtnlicbhelnocpaaDoor

/- The wrappers impl.PieceSign and impl.Draw. -/
import Derived.Test.YtnlicbhelnocpaaDoorDrawW
import Derived.Test.YtnlicbhelnocpaaDoorMoved
namespace Go.Proofs.YtnlicbhelnocpaaDoor
open Go.ChangeShapes Go.WideShapes Go.ChangeAt Go.RowKit Plain
set_option maxHeartbeats 1000000
set_option linter.unusedVariables false
set_option linter.unusedSimpArgs false

theorem small_any (a : Int) (h0 : -128 ≤ a) (h1 : a ≤ 127) (w : World) :
    Calls Tryd.prog 38 #[.int .i64 a] w fun e w' => e = .returned (.int .i8 a) ∧ w = w' := by
  go_enter Tryd.func38, Tryd.ntmps38
  go_wp2
  go_ret
  exact ⟨rfl, rfl⟩
def resSB (w : World) : World := (w.alloc (.cells #[.string ⟨#[]⟩] 9)).alloc (.cells #[.bool false] 4)
theorem clo_PieceSign (p0 p1 : Addr) (w : World) :
    CallsD Tryd.prog 37 #[.pointer (some p0), .pointer (some p1)] .returning w fun e u' w' => e = .returned (.tuple #[]) ∧ u' = .returning ∧ w' = w := by
  refine callsD_of_wpS Tryd.func37 rfl fun c₀ cs hu => ?_
  apply wpS_seq
  apply wpS_region
  simp [wpOpsS, go_sem, recoverD, hu, Tryd.ntmps37, Exit.thenS]
  refine wpS_cond (t := false) (by simp [Act.eval, Array.replicate]) ?_
  simp only [Bool.false_eq_true, if_false]
  refine wpS_of_wp (wp_skip ?_)
  cases c₀
  simp_all [bodyPostS, results, Tryd.results37]

theorem pieceSign_any (x : Int) (h0 : 1 ≤ x) (h1 : x ≤ 12) (dark : Bool) (w : World) (hU : TabsU w) :
    Calls Tryd.prog 15 #[.int .i64 x, .bool dark] w fun e w' => e = .returned (.tuple #[.string (tx (sg dark x)), .bool true]) ∧ Below w.heap.size w w' := by
  have hmf := mkf Tryd.prog
  have hB : Below w.heap.size w ((w.alloc (.cells #[.string ⟨#[]⟩] 9)).alloc (.cells #[.bool false] 4)) := ((Below.refl _ _).alloc (Nat.le_refl _) _).alloc (by simp) _
  have hU2 := hU.below hB
  clear hU
  cases dark
  · go_enter_defers Tryd.func15, Tryd.ntmps15
    go_wp2_with (first | (go_at_call 38; refine (small_any _ (by omega) (by omega) _).mono ?_; rintro e w' ⟨rfl, rfl⟩) | (go_at_call 40; refine (string_any _ h0 h1 _ hU2).mono ?_; rintro e w' ⟨rfl, rfl⟩))
    refine leaves_cons (f := 37) (args := #[.pointer (some ⟨w.heap.size, 0, none⟩), .pointer (some ⟨w.heap.size + 1, 0, none⟩)]) (by simp) (by simp [go_sem]) ?_; refine (clo_PieceSign _ _ _).mono ?_; rintro e u' w'' ⟨rfl, rfl, rfl⟩
    simp [Leaves, settle, results, Tryd.results15, go_sem]
    exact (((Below.refl _ _).alloc (Nat.le_refl _) _).alloc (by simp) _)
  · go_enter_defers Tryd.func15, Tryd.ntmps15
    go_wp2_with (first | (go_at_call 38; refine (small_any _ (by omega) (by omega) _).mono ?_; rintro e w' ⟨rfl, rfl⟩) | (go_at_call 39; refine (darkString_any _ h0 h1 _ hU2).mono ?_; rintro e w' ⟨rfl, rfl⟩))
    refine leaves_cons (f := 37) (args := #[.pointer (some ⟨w.heap.size, 0, none⟩), .pointer (some ⟨w.heap.size + 1, 0, none⟩)]) (by simp) (by simp [go_sem]) ?_; refine (clo_PieceSign _ _ _).mono ?_; rintro e u' w'' ⟨rfl, rfl, rfl⟩
    simp [Leaves, settle, results, Tryd.results15, go_sem]
    exact (((Below.refl _ _).alloc (Nat.le_refl _) _).alloc (by simp) _)

def laidD (w : World) (bd : Nat → Int) : World := ((w.alloc (.cells (rowArr 64 fun i => .int .i64 (bd i)) 23)).alloc (.cells #[.string ⟨#[]⟩] 9)).alloc (.cells #[.bool false] 4)
theorem clo_Draw (p0 p1 : Addr) (w : World) :
    CallsD Tryd.prog 41 #[.pointer (some p0), .pointer (some p1)] .returning w fun e u' w' => e = .returned (.tuple #[]) ∧ u' = .returning ∧ w' = w := by
  refine callsD_of_wpS Tryd.func41 rfl fun c₀ cs hu => ?_
  apply wpS_seq
  apply wpS_region
  simp [wpOpsS, go_sem, recoverD, hu, Tryd.ntmps41, Exit.thenS]
  refine wpS_cond (t := false) (by simp [Act.eval, Array.replicate]) ?_
  simp only [Bool.false_eq_true, if_false]
  refine wpS_of_wp (wp_skip ?_)
  cases c₀
  simp_all [bodyPostS, results, Tryd.results41]

set_option maxRecDepth 100000 in
theorem implDraw_any (bd : Nat → Int) (hbd : Right bd) (black dark : Bool) (w : World) (hT : TabsP w) (hU : TabsU w) :
    Calls Tryd.prog 16 #[intRow 64 bd, .bool black, .bool dark] w fun e w' => e = .returned (.tuple #[.string (tx (picTx black dark bd 8)), .bool true]) ∧ Below w.heap.size w w' := by
  have hmf := mkf Tryd.prog
  have hr : (laidD w bd).rowIs w.heap.size 23 64 (fun i => .int .i64 (bd i)) := ((rowIs_new w 23 64 (fun i => .int .i64 (bd i))).alloc _).alloc _
  have hb : Below w.heap.size w (laidD w bd) := (((Below.refl _ _).alloc (Nat.le_refl _) _).alloc (by simp) _).alloc (by simp; omega) _
  have hs : (laidD w bd).heap.size = w.heap.size + 3 := by simp [laidD]
  have hTw := hT.below hb
  have hUw := hU.below hb
  have hrow0 := rowIs_block hr
  have hone : ∀ (v : World) (x : Value) (t : TypeId), (v.alloc (.cells #[x] t)).rowIs v.heap.size t 1 (fun _ => x) := fun v x t => World.rowIs_alloc v #[x] t (fun _ => x) (fun i hi => by obtain rfl : i = 0 := (by simp at hi; omega); rfl)
  have hc1 : (laidD w bd).rowIs (w.heap.size + 1) 9 1 (fun _ => .string ⟨#[]⟩) := by
    have := (hone (w.alloc (.cells (rowArr 64 fun i => .int .i64 (bd i)) 23)) (.string ⟨#[]⟩) 9).alloc (.cells #[.bool false] 4)
    simpa [laidD] using this
  have hc2 : (laidD w bd).rowIs (w.heap.size + 1 + 1) 4 1 (fun _ => .bool false) := by
    have := hone ((w.alloc (.cells (rowArr 64 fun i => .int .i64 (bd i)) 23)).alloc (.cells #[.string ⟨#[]⟩] 9)) (.bool false) 4
    simpa [laidD] using this
  have hdraw := Lib.hid fun (g : Nat) (v0 : World) (h : v0.rowIs g tBoard 17 (calcRow (bbsOf bd) 64)) hT hU => draw2_any g _ bd hbd black dark v0 h (fun j hj => calcRow_low hj) hT hU
  replace hb := Lib.hid hb
  clear hT hU hone
  unfold intRow
  cases black
  all_goals
    go_enter_defers Tryd.func16, Tryd.ntmps16
    go_wp2_with (first
      | (refine wpList_load_row rfl 23 _ rfl w.heap.size rfl _ _ (0, 0) _ hrow0 Tryd.underlying23 rfl (by rw [info64, rowArr_size]) ?_)
      | (go_at_call 42; refine (hdraw.out g w1 hrow hT1 hU1).mono ?_; rintro e w3 ⟨rfl, rfl⟩; have k1 := (rowIs_below hc1 hb1 (by omega)).cell (i := 0) (by omega); have k2 := (rowIs_below hc2 hb1 (by omega)).cell (i := 0) (by omega); have f1 := (rowIs_below hc1 hb1 (by omega)).frozen 0; have f2 := (rowIs_below hc2 hb1 (by omega)).frozen 0)
      | (go_at_call 34; refine (board_any bd hbd (laidD w bd) hTw).mono ?_; rintro e w1 ⟨g, rfl, hg, hrow, hb1⟩; have hT1 := hTw.below hb1; have hU1 := hUw.below hb1))
    refine leaves_cons (f := 41) (args := #[.pointer (some ⟨w.heap.size + 1, 0, none⟩), .pointer (some ⟨w.heap.size + 2, 0, none⟩)]) (by simp) (by simp [go_sem]) ?_; refine (clo_Draw _ _ _).mono ?_; rintro e u' w'' ⟨rfl, rfl, rfl⟩
    simp [Leaves, settle, results, Tryd.results16, asAddr, go_sem, k1, k2]
    exact (((hb.out.trans (hb1.mono (by omega))).setCell (by simp) _).setCell (by simp; omega) _)
end Go.Proofs.YtnlicbhelnocpaaDoor

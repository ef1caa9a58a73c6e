/- The walk of the law FnBdFlip at a board of pieces. -/
import Derived.Test.YtgafddcmpdbdbaaDoorImplFlip
namespace Go.Proofs.YtgafddcmpdbdbaaDoor.Flipped
open Go.ChangeShapes Go.WideShapes Go.ChangeAt Go.RowKit Plain
set_option maxHeartbeats 8000000
set_option linter.unusedVariables false
set_option linter.unusedSimpArgs false

theorem wpList_load_want {P : Program} {ops : Array Oper} {rest : List Oper} {o : Oper} {a : Act} {w : World} {Q : Exit → Act → World → Prop} (hw : Region.wanted o (yielded ops a.tmps) = true) (ty : TypeId) (x : Operand) (ho : o.op = .load ty x)
    (g : Nat) (hx : a.eval x = .pointer (some ⟨g, 0, none⟩)) (t : TypeId) (cs : Array Value) (fr : Nat × Nat) (d : TypeDesc) (hg : w.heap[g]? = some (.cells cs t fr))
    (hu : P.underlying ty = some d) (hd : (match d with | .struct _ | .array _ _ => true | _ => false) = true) (hi : (P.info? ty).map (·.size) = some cs.size)
    (h : wpList P ops Q rest (a.put o.dst (.agg cs)) w) : wpList P ops Q (o :: rest) a w :=
  BigFrame.wpList_want hw fun _ hK => wp_load_row ty x ho g hx t cs fr d hg hu hd hi (hK _ _ h)
theorem newRow (w : World) (R : Nat → Int) : Below w.heap.size w ((w.alloc (.cells zero64 23)).setRow w.heap.size (rowArr 64 fun i => .int .i64 (R i))) ∧
    ((w.alloc (.cells zero64 23)).setRow w.heap.size (rowArr 64 fun i => .int .i64 (R i))).rowIs w.heap.size 23 64 (fun i => .int .i64 (R i)) ∧ w.heap.size + 1 ≤ ((w.alloc (.cells zero64 23)).setRow w.heap.size (rowArr 64 fun i => .int .i64 (R i))).heap.size := by
  have hz : (w.alloc (.cells zero64 23)).rowIs w.heap.size 23 64 (fun _ => .int .i64 0) := by rw [zeroRow]; exact rowIs_new w _ _ _
  have hb : Below w.heap.size w (w.alloc (.cells zero64 23)) := (Below.refl _ _).alloc (Nat.le_refl _) _
  have h := rowIs_setRow hz fun i => .int .i64 (R i)
  exact ⟨below_setRow hb (Nat.le_refl _) _, h, h.lt⟩
theorem ud_way : ∀ i, i < 64 → flTo false i < 64 ∧ flTo false (flTo false i) = i ∧ atOf (1 * ((i % 8 : Nat) : Int) + 0 * ((i / 8 : Nat) : Int) + 0) (0 * ((i % 8 : Nat) : Int) + (-1) * ((i / 8 : Nat) : Int) + 7) = (flTo false i : Int) := fun i hi => by
  refine ⟨flTo_lt _ hi, flTo_two _ hi, ?_⟩
  unfold atOf flTo udTo
  rw [if_pos (by omega)]
  simp
  omega
theorem lr_way : ∀ i, i < 64 → flTo true i < 64 ∧ flTo true (flTo true i) = i ∧ atOf ((-1) * ((i % 8 : Nat) : Int) + 0 * ((i / 8 : Nat) : Int) + 7) (0 * ((i % 8 : Nat) : Int) + 1 * ((i / 8 : Nat) : Int) + 0) = (flTo true i : Int) := fun i hi => by
  refine ⟨flTo_lt _ hi, flTo_two _ hi, ?_⟩
  unfold atOf flTo lrTo
  rw [if_pos (by omega)]
  simp
  omega
theorem right_flip {bd : Nat → Int} (h : Right bd) (lr : Bool) : Right fun j => bd (flTo lr j) := fun i hi => h _ (flTo_lt lr hi)

end Go.Proofs.YtgafddcmpdbdbaaDoor.Flipped

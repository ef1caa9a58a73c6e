/- Two positions are compared. -/
import Derived.Test.YthdbgjhonnogpaaGreatDoorEqArr
import Derived.Test.YthdbgjhonnogpaaGreatDoorUnguard
import Derived.Laws.StructEq
namespace Go.Proofs.YthdbgjhonnogpaaGreatDoor
open Go.ChangeShapes Go.WideShapes Go.ChangeAt Go.RowKit Plain
set_option maxHeartbeats 1000000
set_option linter.unusedVariables false
set_option linter.unusedSimpArgs false

theorem part_int (F : Nat → Int) (k : Nat) (hk : k < 69) (w : World) : (part 3 (rowArr 69 fun i => .int .i64 (F i)) k).run Tryz.prog w = .ok (.int .i64 (F k)) w := by
  have hg : (rowArr 69 fun i => Value.int .i64 (F i))[k]? = some (.int .i64 (F k)) := rowArr_get 69 _ k hk
  simp [part, isAgg, run_underlying Tryz.underlying3, hg]
theorem part_board (F : Nat → Int) (w : World) : (part 22 (rowArr 69 fun i => .int .i64 (F i)) 0).run Tryz.prog w = .ok (.agg (rowArr 64 fun i => .int .i64 (F i))) w := by
  have he : (rowArr 69 fun i => Value.int .i64 (F i)).extract 0 64 = rowArr 64 fun i => .int .i64 (F i) := by
    refine rowArr_eq (by simp [rowArr_size]) fun i hi => ?_
    rw [Array.getElem?_extract]
    simp [rowArr_size, hi, rowArr_get 69 _ i (show i < 69 by omega)]
  have hs : (sizeOf 22).run Tryz.prog w = .ok 64 w := by kernel_rfl
  have ha : (isAgg 22).run Tryz.prog w = .ok true w := by kernel_rfl
  simp only [part, Sem.run_bind, ha, Result.andThen_ok, if_true, hs, Sem.run_pure, Nat.zero_add, he]
theorem eqF_step {d : Nat} {xs ys : Array Value} {f : Field} {fs : List Field} {w : World} {a b : Value} (hn : f.name ≠ "_") (pa : (part f.type xs f.offset).run Tryz.prog w = .ok a w) (pb : (part f.type ys f.offset).run Tryz.prog w = .ok b w) (he : (Op.equalIn d f.type a b).run Tryz.prog w = .ok true w) :
    (Op.eqFields d xs ys (f :: fs)).run Tryz.prog w = (Op.eqFields d xs ys fs).run Tryz.prog w := by
  simp only [Op.eqFields, hn, ne_eq, not_false_eq_true, if_true, Sem.run_bind, pa, pb, he, Result.andThen_ok]
  simp
set_option maxRecDepth 100000 in
theorem run_eqPos (F : Nat → Int) (w : World) : (binOp .eql 24 (.agg (rowArr 69 fun i => .int .i64 (F i))) (.agg (rowArr 69 fun i => .int .i64 (F i)))).run Tryz.prog w = .ok (.bool true) w := by
  have e0 : (Op.equalIn 9999 22 (.agg (rowArr 64 fun i => .int .i64 (F i))) (.agg (rowArr 64 fun i => .int .i64 (F i)))).run Tryz.prog w = .ok true w := by
    rw [run_equalIn_ints 9997 F F w, eqInts_true fun _ _ => rfl]
  have ei : ∀ k, (Op.equalIn 9999 3 (.int .i64 (F k)) (.int .i64 (F k))).run Tryz.prog w = .ok true w := fun k => by
    rw [run_equalIn_int w 9998 _ .i64 .i64 _ _ Tryz.underlying3]; simp
  have hu : Tryz.prog.underlying 24 = some (.struct (Tryz.prog.fieldsOf 24)) := by unfold Program.fieldsOf; rw [Tryz.underlying24]
  rw [run_eql_struct, run_equalIn_struct w 9999 24 _ _ hu (by kernel_rfl)]
  unfold Program.fieldsOf
  rw [Tryz.underlying24]
  simp only []
  rw [eqF_step (by decide) (part_board F w) (part_board F w) e0,
    eqF_step (by decide) (part_int F 64 (by omega) w) (part_int F 64 (by omega) w) (ei 64),
    eqF_step (by decide) (part_int F 65 (by omega) w) (part_int F 65 (by omega) w) (ei 65),
    eqF_step (by decide) (part_int F 66 (by omega) w) (part_int F 66 (by omega) w) (ei 66),
    eqF_step (by decide) (part_int F 67 (by omega) w) (part_int F 67 (by omega) w) (ei 67),
    eqF_step (by decide) (part_int F 68 (by omega) w) (part_int F 68 (by omega) w) (ei 68)]
  simp [Op.eqFields]
end Go.Proofs.YthdbgjhonnogpaaGreatDoor

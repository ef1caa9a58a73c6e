/- A parameter [64]int: opened and shut. -/
import Derived.Test.YthdbgjhonnogpaaDoorRowsK
import Derived.Test.YthdbgjhonnogpaaDoorLaid
import Derived.DataBytes
namespace Go.Proofs.YthdbgjhonnogpaaDoor
open Go.ChangeShapes Go.WideShapes Go.ChangeAt Go.RowKit Plain
set_option maxHeartbeats 1000000
set_option linter.unusedVariables false

theorem cells64 : Tryd.prog.cellsOf 22 = 64 := by kernel_rfl
theorem cells1 : Tryd.prog.cellsOf 3 = 1 := by kernel_rfl
theorem one_of {α : Type} {cs : List α} {i : Nat} {x : α} (h : (cs.drop (i * 1)).take 1 = [x]) : cs[i]? = some x := by
  have h0 := congrArg (·[0]?) h
  simpa using h0
def intsOf (f : Nat → Int) {H : Type} : DataW H := .agg ((List.range 64).map fun i => .lit (.int .i64 (f i)))
section
variable {H : Type} {enc : TypeId × Value → H} {w : World} {base : Nat} {spare : Nat → Bool} {held : Bool}
theorem row_trod (f : Nat → Int) (hw : ∀ i, i < 64 → (Lit.int .i64 (f i)).wf = true) (n : Nat) :
    ((List.range 64).mapM fun i => DataW.trod enc Tryd.prog w base spare held (n + 1) 3 ((((List.range 64).map fun i => Value.int .i64 (f i)).drop (i * 1)).take 1)) = some ((List.range 64).map fun i => (DataW.lit (.int .i64 (f i)), [])) := by
  refine mapM_some_of_forall (g := fun i => (DataW.lit (.int .i64 (f i)), [])) _ fun i hi => ?_
  have hi : i < 64 := List.mem_range.1 hi
  have e : (((List.range 64).map fun i => Value.int .i64 (f i)).drop (i * 1)).take 1 = [.int .i64 (f i)] := by
    rw [Nat.mul_one, List.take_one, List.head?_drop]
    simp [hi]
  rw [e]
  simp [DataW.trod, Tryd.underlying3, hw i hi]
theorem shut_ints64 (f : Nat → Int) (hw : ∀ i, i < 64 → (Lit.int .i64 (f i)).wf = true) : DataW.Trod enc Tryd.prog w base spare held 22 (intRow 64 f) (intsOf f) [] := by
  refine ⟨2, ?_⟩
  have h := row_trod (enc := enc) (w := w) (base := base) (spare := spare) (held := held) f hw 0
  unfold intRow rowArr
  simp only [Value.cells]
  unfold DataW.trod
  rw [Tryd.underlying22]
  simp only [cells64, cells1, List.length_map, List.length_range, if_true, h]
  simp [intsOf]
set_option maxRecDepth 100000 in
theorem open_ints64 {r : Reach} {b0 : Nat} {v : Value} {d : DataW H} {ps : List MemPlace} (hval : Value.okWide Tryd.prog w r b0 22 v) (hd : DataW.Trod enc Tryd.prog w base spare held 22 v d ps) :
    ∃ f : Nat → Int, v = intRow 64 f ∧ d = intsOf f ∧ ps = [] ∧ ∀ i, i < 64 → (Lit.int .i64 (f i)).wf = true := by
  simp only [Value.okWide, Tryd.underlying22] at hval
  obtain ⟨cs, rfl, hsz, _⟩ := hval
  rw [cells64] at hsz
  obtain ⟨fuel, hf⟩ := hd
  cases fuel with
  | zero => simp [DataW.trod] at hf
  | succ n =>
    simp only [Value.cells] at hf
    unfold DataW.trod at hf
    rw [Tryd.underlying22] at hf
    simp only [cells64, cells1, Array.length_toList, hsz, if_true, Option.map_eq_some_iff] at hf
    obtain ⟨xs, hx, he⟩ := hf
    have key : ∀ i, i < 64 → ∃ m, cs.toList[i]? = some (.int .i64 m) ∧ (Lit.int .i64 m).wf = true := fun i hi => by
      obtain ⟨y, hy⟩ := mapM_each hx i (List.mem_range.2 hi)
      obtain ⟨m, h1, _, h2⟩ := DataW.trod_int Tryd.underlying3 hy
      exact ⟨m, one_of h1, h2⟩
    let f : Nat → Int := fun i => match cs.toList[i]? with | some (.int .i64 m) => m | _ => 0
    have hf : ∀ i, i < 64 → cs.toList[i]? = some (.int .i64 (f i)) ∧ (Lit.int .i64 (f i)).wf = true := fun i hi => by
      obtain ⟨m, h1, h2⟩ := key i hi
      have : f i = m := by simp only [f, h1]
      rw [this]; exact ⟨h1, h2⟩
    clear_value f
    have hcs : cs = rowArr 64 fun i => .int .i64 (f i) := rowArr_eq hsz fun i hi => by have := (hf i hi).1; simpa using this
    subst hcs
    have hl : (rowArr 64 fun i => Value.int .i64 (f i)).toList = (List.range 64).map fun i => Value.int .i64 (f i) := by simp [rowArr]
    cases n with
    | zero =>
      obtain ⟨y, hy⟩ := mapM_each hx 0 (by simp)
      simp [DataW.trod] at hy
    | succ n =>
      rw [hl, row_trod f (fun i hi => (hf i hi).2) n] at hx
      obtain rfl := Option.some.inj hx
      simp only [Prod.mk.injEq] at he
      refine ⟨f, rfl, ?_, ?_, fun i hi => (hf i hi).2⟩
      · rw [← he.1]; simp [intsOf]
      · rw [← he.2]; simp
end
end Go.Proofs.YthdbgjhonnogpaaDoor

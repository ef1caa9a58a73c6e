/- A parameter impl.Pos: opened. -/
import Derived.Test.YthdbgjhonnogpaaDoorOpenArr
import Derived.ChangeArms
namespace Go.Proofs.YthdbgjhonnogpaaDoor
open Go.ChangeShapes Go.WideShapes Go.ChangeAt Go.RowKit Plain
set_option maxHeartbeats 1000000
set_option linter.unusedVariables false
set_option linter.unusedSimpArgs false

section
variable {H : Type} {enc : TypeId × Value → H} {w : World} {base : Nat} {spare : Nat → Bool} {held : Bool}
set_option maxRecDepth 100000 in
theorem arr_ints {fuel : Nat} {L : List Value} {y : DataW H × List MemPlace} (hL : L.length = 64) (hf : DataW.trod enc Tryd.prog w base spare held fuel 22 L = some y) :
    ∃ f : Nat → Int, (∀ i, i < 64 → L[i]? = some (.int .i64 (f i))) ∧ y.2 = [] := by
  cases fuel with
  | zero => simp [DataW.trod] at hf
  | succ n =>
    unfold DataW.trod at hf
    rw [Tryd.underlying22] at hf
    simp only [cells64, cells1, hL, if_true, Option.map_eq_some_iff] at hf
    obtain ⟨xs, hx, he⟩ := hf
    have key : ∀ i, i < 64 → ∃ m, L[i]? = some (.int .i64 m) ∧ (Lit.int .i64 m).wf = true := fun i hi => by
      obtain ⟨y, hy⟩ := mapM_each hx i (List.mem_range.2 hi)
      obtain ⟨m, h1, _, h2⟩ := DataW.trod_int Tryd.underlying3 hy
      exact ⟨m, one_of h1, h2⟩
    let f : Nat → Int := fun i => match L[i]? with | some (.int .i64 m) => m | _ => 0
    have hf : ∀ i, i < 64 → L[i]? = some (.int .i64 (f i)) ∧ (Lit.int .i64 (f i)).wf = true := fun i hi => by
      obtain ⟨m, h1, h2⟩ := key i hi
      have : f i = m := by simp only [f, h1]
      rw [this]; exact ⟨h1, h2⟩
    clear_value f
    have hl : L = (List.range 64).map fun i => Value.int .i64 (f i) := by
      apply List.ext_getElem?
      intro i
      by_cases hi : i < 64
      · rw [(hf i hi).1]; simp [hi]
      · rw [List.getElem?_eq_none (by omega), List.getElem?_eq_none (by simp; omega)]
    subst hl
    cases n with
    | zero =>
      obtain ⟨y, hy⟩ := mapM_each hx 0 (by simp)
      simp [DataW.trod] at hy
    | succ n =>
      rw [row_trod f (fun i hi => (hf i hi).2) n] at hx
      obtain rfl := Option.some.inj hx
      exact ⟨f, fun i hi => (hf i hi).1, by rw [← he]; simp⟩
theorem cells69 : Tryd.prog.cellsOf 24 = 69 := by kernel_rfl
set_option maxRecDepth 100000 in
theorem open_pos {r : Reach} {b0 : Nat} {v : Value} {d : DataW H} {ps : List MemPlace} (hval : Value.okWide Tryd.prog w r b0 24 v) (hd : DataW.Trod enc Tryd.prog w base spare held 24 v d ps) :
    ∃ f : Nat → Int, v = intRow 69 f ∧ ps = [] := by
  obtain ⟨cs, rfl, hsz⟩ := okWide_struct Tryd.underlying24 hval
  rw [cells69] at hsz
  obtain ⟨fuel, hf⟩ := hd
  simp only [Value.cells] at hf
  obtain ⟨xs, n, _, hx, _, hlen, hg⟩ := DataW.trod_struct Tryd.underlying24 hf
  match xs, hlen with
  | [y0, y1, y2, y3, y4, y5], _ =>
    have h0 := hg 0 _ rfl
    have h1 := hg 1 _ rfl
    have h2 := hg 2 _ rfl
    have h3 := hg 3 _ rfl
    have h4 := hg 4 _ rfl
    have h5 := hg 5 _ rfl
    simp only [cells64, cells1, List.getElem?_cons_zero, List.getElem?_cons_succ] at h0 h1 h2 h3 h4 h5
    have hl0 : (List.take 64 (List.drop 0 cs.toList)).length = 64 := by rw [List.length_take, List.length_drop, Array.length_toList, hsz]; rfl
    obtain ⟨f, hfi, e0⟩ := arr_ints (L := List.take 64 (List.drop 0 cs.toList)) hl0 h0
    obtain ⟨m1, k1, e1, _⟩ := DataW.trod_int Tryd.underlying3 h1
    obtain ⟨m2, k2, e2, _⟩ := DataW.trod_int Tryd.underlying3 h2
    obtain ⟨m3, k3, e3, _⟩ := DataW.trod_int Tryd.underlying3 h3
    obtain ⟨m4, k4, e4, _⟩ := DataW.trod_int Tryd.underlying3 h4
    obtain ⟨m5, k5, e5, _⟩ := DataW.trod_int Tryd.underlying3 h5
    have c1 := one_of (i := 64) k1
    have c2 := one_of (i := 65) k2
    have c3 := one_of (i := 66) k3
    have c4 := one_of (i := 67) k4
    have c5 := one_of (i := 68) k5
    refine ⟨fun i => if i < 64 then f i else if i = 64 then m1 else if i = 65 then m2 else if i = 66 then m3 else if i = 67 then m4 else m5, ?_, ?_⟩
    · unfold intRow
      refine congrArg Value.agg (rowArr_eq hsz fun i hi => ?_)
      rw [← Array.getElem?_toList]
      dsimp only
      by_cases hl : i < 64
      · have := hfi i hl
        rw [if_pos hl]
        rw [List.getElem?_take, if_pos hl, List.getElem?_drop, Nat.zero_add] at this
        exact this
      · rw [if_neg hl]
        (have : i = 64 ∨ i = 65 ∨ i = 66 ∨ i = 67 ∨ i = 68 := (by omega))
        rcases this with rfl | rfl | rfl | rfl | rfl
        · exact c1
        · exact c2
        · exact c3
        · exact c4
        · exact c5
    · simp only [Prod.mk.injEq] at hx
      rw [hx.2]
      simp [e0, e1, e2, e3, e4, e5]
end
end Go.Proofs.YthdbgjhonnogpaaDoor

/- For every byte n, the law FnNmCodes (what a pawn becomes in a book of moves) returns true. No condition beyond the row's own. -/
import Derived.Test.YtofjlnillbphkaaRows
import Derived.WalkKit
import Derived.ProofKit
import Derived.OpenShut
namespace Go.Proofs.Ytofjlnillbphkaa.Codes
open Go.ChangeShapes Go.WideShapes Go.ChangeAt Go.RowKit
set_option maxHeartbeats 400000

theorem small_any (a : Int) (h0 : -128 ≤ a) (h1 : a ≤ 127) (w : World) :
    Calls Try.prog 11 #[.int .i64 a] w fun e w' => e = .returned (.int .i8 a) ∧ w = w' := by
  go_enter Try.func11, Try.ntmps11
  go_wp2
  go_ret
  exact ⟨rfl, rfl⟩

theorem clo10_idle (p q : Addr) (w : World) :
    CallsD Try.prog 10 #[.pointer (some p), .pointer (some q)] .returning w fun e u' w' => e = .returned (.tuple #[]) ∧ u' = .returning ∧ w' = w := by
  refine callsD_of_wpS Try.func10 rfl fun c₀ cs hu => ?_
  apply wpS_seq
  apply wpS_region
  simp [wpOpsS, go_sem, recoverD, hu, Try.ntmps10, Exit.thenS]
  refine wpS_cond (t := false) (by simp [Act.eval, Array.replicate]) ?_
  simp only [Bool.false_eq_true, if_false]
  refine wpS_of_wp (wp_skip ?_)
  cases c₀
  simp_all [bodyPostS, results, Try.results10]

def codeOf (a : Int) : Int := if a = 5 then 1 else if a = 4 then 2 else if a = 3 then 3 else if a = 2 then 4 else 0

theorem code_any (a : Int) (h0 : 0 ≤ a) (h6 : a ≤ 6) (w : World) :
    Calls Try.prog 12 #[.int .i8 a] w fun e w' => e = .returned (.int .i64 (codeOf a)) ∧ w = w' := by
  have h : a = 0 ∨ a = 1 ∨ a = 2 ∨ a = 3 ∨ a = 4 ∨ a = 5 ∨ a = 6 := by omega
  rcases h with rfl | rfl | rfl | rfl | rfl | rfl | rfl
  all_goals
    go_enter Try.func12, Try.ntmps12
    go_wp2
    go_ret
    exact ⟨rfl, rfl⟩

theorem kindcode_any (a : Int) (h0 : 0 ≤ a) (h1 : a ≤ 6) (w : World) :
    Calls Try.prog 5 #[.int .i64 a] w fun e w' => e = .returned (.tuple #[.int .i64 (codeOf a), .bool true]) ∧ Grown w w' := by
  have hmf : ∀ (fn : Fn) (first cap : Array Value) (w : World), (Instr.makeFunc fn first cap).run Try.prog w = .ok (.func fn first cap) w := fun _ _ _ _ => rfl
  go_enter_defers Try.func5, Try.ntmps5
  go_wp2_with (first | (go_at_call 11; refine (small_any _ (by omega) (by omega) _).mono ?_; rintro e w' ⟨rfl, rfl⟩) | (go_at_call 12; refine (code_any _ h0 h1 _).mono ?_; rintro e w' ⟨rfl, rfl⟩))
  refine leaves_cons (f := 10) (args := #[.pointer (some ⟨w.heap.size, 0, none⟩), .pointer (some ⟨w.heap.size + 1, 0, none⟩)]) (by simp) (by simp [go_sem]) ?_
  refine (clo10_idle _ _ _).mono ?_
  rintro e u' w'' ⟨rfl, rfl, rfl⟩
  simp [Leaves, settle, results, Try.results5, go_sem]
  repeat (first | exact Grown.refl _ | apply Grown.drew | apply Grown.alloc)

theorem walkK (k : Int) (hk : k = 0 ∨ k = 1 ∨ k = 2 ∨ k = 3 ∨ k = 4 ∨ k = 5) (a0 : Int) (h0 : 0 ≤ a0) (hm : a0 % 6 = k) (w : World) :
    Calls Try.prog 3 #[.int .u8 a0] w fun e w' => e = .returned (.bool true) ∧ Grown w w' := by
  have HM : a0.tmod 6 = k := by rw [Int.tmod_eq_emod_of_nonneg h0]; exact hm
  have i1 : ∀ w, (Instr.index 24 (.agg #[.int .i64 0, .int .i64 0, .int .i64 4, .int .i64 3, .int .i64 2, .int .i64 1, .int .i64 0]) (.int .i64 1)).run Try.prog w = .ok (.int .i64 0) w := fun _ => by kernel_rfl
  have i2 : ∀ w, (Instr.index 24 (.agg #[.int .i64 0, .int .i64 0, .int .i64 4, .int .i64 3, .int .i64 2, .int .i64 1, .int .i64 0]) (.int .i64 2)).run Try.prog w = .ok (.int .i64 4) w := fun _ => by kernel_rfl
  have i3 : ∀ w, (Instr.index 24 (.agg #[.int .i64 0, .int .i64 0, .int .i64 4, .int .i64 3, .int .i64 2, .int .i64 1, .int .i64 0]) (.int .i64 3)).run Try.prog w = .ok (.int .i64 3) w := fun _ => by kernel_rfl
  have i4 : ∀ w, (Instr.index 24 (.agg #[.int .i64 0, .int .i64 0, .int .i64 4, .int .i64 3, .int .i64 2, .int .i64 1, .int .i64 0]) (.int .i64 4)).run Try.prog w = .ok (.int .i64 2) w := fun _ => by kernel_rfl
  have i5 : ∀ w, (Instr.index 24 (.agg #[.int .i64 0, .int .i64 0, .int .i64 4, .int .i64 3, .int .i64 2, .int .i64 1, .int .i64 0]) (.int .i64 5)).run Try.prog w = .ok (.int .i64 1) w := fun _ => by kernel_rfl
  have i6 : ∀ w, (Instr.index 24 (.agg #[.int .i64 0, .int .i64 0, .int .i64 4, .int .i64 3, .int .i64 2, .int .i64 1, .int .i64 0]) (.int .i64 6)).run Try.prog w = .ok (.int .i64 0) w := fun _ => by kernel_rfl
  rcases hk with rfl | rfl | rfl | rfl | rfl | rfl
  all_goals
    go_enter Try.func3, Try.ntmps3
    go_wp2_with (go_at_call 5; refine (kindcode_any _ (by omega) (by omega) _).mono ?_; rintro e w' ⟨rfl, hg⟩)
    go_ret
    exact ⟨by simp [codeOf], hg⟩

theorem walk (a0 : Int) (w0 : (Lit.int .u8 a0).wf = true) (w : World) :
    Calls Try.prog 3 #[.int .u8 a0] w fun e w' => e = .returned (.bool true) ∧ Grown w w' := by
  have hw := bounds_u8 w0
  exact walkK (a0 % 6) (by omega) a0 hw.1 rfl w
theorem own : ownKnob Try.prog.godebug = none := by kernel_rfl
set_option linter.unusedVariables false
/-! ### THE ROW's STEP: WRITTEN OUT: LEAVE IT -/
set_option maxRecDepth 100000 in
theorem lifted (os : Os) (started : os.Started) (H : Type) (enc : TypeId × Value → H) :
    ReturnsInHanded {} Try.checked os 3 .any (Rows.fnNmCodesSpec.pre6 enc Try.prog Try.f3 Rows.fnNmCodesRow.domain false) (Rows.fnNmCodesSpec.post enc Try.prog Try.f3 false true false false) := by
  refine returnsInHanded_of_change (C := Try.checked) own started (by kernel_rfl) Try.func3
    (ChangeSpec.witness6 (enc := enc) (C := Try.checked) false ⟨#[], #[.int .u8 0], []⟩ 8 (by kernel_rfl) (by kernel_rfl) (by kernel_rfl) (by kernel_rfl)) ?_
  intro W base args ds gs before hval0 hW hcnd _
  have hval : ∀ (j : Nat) t v, Try.f3.params[j]? = some t → args[j]? = some v → Value.okWide Try.prog W .any base t v := hval0
  have hW' := hW
  obtain ⟨p, q, hA0, hV, rfl, hfz, hnd⟩ := hW
  have hA : DataW.TrodAll enc Try.prog W 0 (fun _ => true) true Try.f3.params.toList args.toList ds p := hA0
  rw [Try.params3] at hA hval
  obtain ⟨v0, vs0, d0, ds0, p0, q0, hargs, rfl, rfl, h0, r0⟩ := trodAll_cons hA
  obtain ⟨rfl, rfl, rfl⟩ := trodAll_nil r0
  obtain rfl : args = #[v0] := by cases args; simp_all
  obtain ⟨rfl, rfl⟩ := trodVars_none hV
  obtain ⟨a0, rfl, rfl, rfl, w0⟩ := open_int Try.underlying5 (hval 0 5 v0 rfl rfl) h0
  clear hA0 hval0
  simp only [List.append_nil] at hW'
  refine (walk a0 w0 W).mono fun e W' ⟨he, hg⟩ => ?_
  subst he
  exact ⟨_, rfl, post_of_same (pa := []) (pv := []) hW' (fun _ _ _ => (trodAll_cons_mk (shut_bool Try.underlying4 _) trodAll_mk0)) (fun sp _ => (trodAll_cons_mk (shut_int Try.underlying5 w0) trodAll_mk0)) (fun _ _ => rfl) rfl
    (hg.frame _) hg.2.1 (ok_one (by kernel_rfl) rfl (okWide_bool_mk Try.underlying4 _))⟩

theorem over : Rows.fnNmCodesRow.holds Try.pinned (OpenSpec.ofChange Rows.fnNmCodesSpec) :=
  OpenClaim.holds_of_wide 3 Try.f3 rfl rfl rfl rfl rfl rfl rfl ⟨rfl, rfl, rfl, rfl, rfl⟩ rfl rfl rfl rfl rfl (by kernel_rfl) Try.func3 (by kernel_rfl)
    (of_decide_eq_true (by kernel_rfl)) (by unfold Func.isWrapper; first | (rw [if_pos (by decide +kernel)]; kernel_rfl) | (rw [if_neg (by decide +kernel)]; exact ⟨rfl, rfl⟩))
    (fun os started H enc _ => lifted os started H enc)

/-- ████ THE STATEMENT ████ -/
theorem proved : Rows.FnNmCodesSaid :=
  over
#print axioms proved
end Go.Proofs.Ytofjlnillbphkaa.Codes

/- For every text: the law FnUciId (what an engine tells of itself) returns true. -/
import Derived.Test.YtkbbncobgmepbaaIdLaw
import Derived.Test.YtkbbncobgmepbaaKeep
import Derived.ChangeMaps5
namespace Go.Proofs.Ytkbbncobgmepbaa.UciId
open Go.ChangeShapes Go.WideShapes Go.ChangeAt Go.RowKit Go.PlainAid
set_option maxHeartbeats 4000000
set_option linter.unusedVariables false
set_option linter.unusedSimpArgs false

theorem walk (a0 : ByteArray) (W : World) :
    Calls Try.prog 4 #[.string a0] W fun e w' => e = .returned (.bool true) ∧ Below W.heap.size W w' := by
  obtain ⟨L, rfl⟩ : ∃ L, a0 = tx L := ⟨a0.data.toList, rfl⟩
  by_cases h1 : L.length ≤ 2147483647
  · by_cases h2 : L.length ≤ 400
    · by_cases h3 : 2 < L.length ∧ L.take 2 = idT ∧ L.getD 2 0 ≠ 32
      · exact walk_out L h2 h3.1 h3.2.1 h3.2.2 W
      · exact walk_main L h2 (fun hi h => Classical.byContradiction fun hc => h3 ⟨h, hi, hc⟩) W
    · exact walk_400 L h1 (by omega) W
  · exact walk_long L (by omega) W

theorem own : ownKnob Try.prog.godebug = none := by kernel_rfl
theorem laidOut : laidOutB Try.prog = true := by kernel_rfl
set_option maxRecDepth 100000 in
theorem lifted (os : Os) (started : os.Started) (H : Type) (enc : TypeId × Value → H) :
    ReturnsInHanded {} Try.checked os 4 .any (Rows.fnUciIdSpec.pre6 enc Try.prog Try.f4 Rows.fnUciIdRow.domain false) (Rows.fnUciIdSpec.post enc Try.prog Try.f4 false true false false) := by
  refine returnsInHanded_of_change (C := Try.checked) own started (by kernel_rfl) Try.func4
    (ChangeSpec.witness6 (enc := enc) (C := Try.checked) false ⟨#[], #[.string ⟨#[]⟩], []⟩ 8 (by kernel_rfl) (by kernel_rfl) (by kernel_rfl) (by kernel_rfl)) ?_
  intro W base args ds gs before hval0 hW hcnd hsz
  have hval : ∀ (j : Nat) t v, Try.f4.params[j]? = some t → args[j]? = some v → Value.okWide Try.prog W .any base t v := hval0
  have hW' := hW
  obtain ⟨p, q, hA0, hV, rfl, hfz, hnd⟩ := hW
  have hA : DataW.TrodAll enc Try.prog W 0 (fun _ => true) true Try.f4.params.toList args.toList ds p := hA0
  rw [Try.params4] at hA hval
  obtain ⟨v0, vs0, d0, ds0, p0, q0, hargs0, rfl, rfl, h0, r0⟩ := trodAll_cons hA
  obtain ⟨hnil, rfl, rfl⟩ := trodAll_nil r0
  obtain rfl : args = #[v0] := by cases args; simp_all
  obtain ⟨rfl, rfl⟩ := trodVars_none hV
  have hlt := hW'.lt
  have k0 := h0
  obtain ⟨a0, rfl, rfl, rfl, w0⟩ := Go.ChangeMaps.open_string Try.underlying9 (hval 0 9 v0 rfl rfl) h0
  clear hA0 hval0
  refine (walk a0 W).mono fun e W' ⟨he, hg⟩ => ?_
  subst he
  exact ⟨_, rfl, post_of_below (pa := [] ++ ([])) (pv := []) hW' (fun _ _ _ => (trodAll_cons_mk (shut_bool Try.underlying4 _) trodAll_mk0)) (fun sp hsp => (trodAll_cons_mk (trod_keep laidOut (by kernel_rfl) (of_decide_eq_true (by kernel_rfl)) k0 hg (fun _ h => by cases h) (fun _ h => by cases h)) trodAll_mk0)) (fun _ _ => rfl) rfl hg (ok_one (by kernel_rfl) rfl (okWide_bool_mk Try.underlying4 _))⟩
theorem over : Rows.fnUciIdRow.holds Try.pinned (OpenSpec.ofChange Rows.fnUciIdSpec) :=
  OpenClaim.holds_of_wide 4 Try.f4 rfl rfl rfl rfl rfl rfl rfl ⟨rfl, rfl, rfl, rfl, rfl⟩ rfl rfl rfl rfl rfl (by kernel_rfl) Try.func4 (by kernel_rfl)
    (of_decide_eq_true (by kernel_rfl)) (by unfold Func.isWrapper; first | (rw [if_pos (by decide +kernel)]; kernel_rfl) | (rw [if_neg (by decide +kernel)]; exact ⟨rfl, rfl⟩))
    (fun os started H enc _ => lifted os started H enc)
/-- The statement. -/
theorem proved : Rows.FnUciIdSaid := over
#print axioms proved
end Go.Proofs.Ytkbbncobgmepbaa.UciId

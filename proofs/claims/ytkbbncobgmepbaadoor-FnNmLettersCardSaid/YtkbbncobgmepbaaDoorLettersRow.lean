/- For every text and byte: the law FnNmLetters (the letters of kinds) returns true. The tied card: CaseRanges, first and acceptRanges hold what the library's text lays in them. -/
import Derived.Test.YtkbbncobgmepbaaDoorLettersLaw
import Derived.Test.YtkbbncobgmepbaaDoorKeep
import Derived.Test.YtkbbncobgmepbaaDoorTie
import Derived.Test.YtkbbncobgmepbaaDoorCards
import Derived.SevenTiedAt
import Derived.ChangeMaps5
import Derived.LaidMore
import Derived.Stop.Joined
import Derived.Lay
namespace Go.Proofs.YtkbbncobgmepbaaDoor.Letters
open Go.ChangeShapes Go.WideShapes Go.ChangeAt Go.RowKit Go.PlainAid
set_option maxHeartbeats 4000000
set_option linter.unusedVariables false
set_option linter.unusedSimpArgs false

theorem eqCase : (Rows.laid_unicode_CaseRanges : DataW Unit) = Lib.caseData := by kernel_rfl
theorem eqFirst : (Rows.laid_unicode_utf8_first : DataW Unit) = Lib.firstData := by kernel_rfl
theorem eqAccept : (Rows.laid_unicode_utf8_acceptRanges : DataW Unit) = Lib.acceptData := by kernel_rfl
theorem tabsL_of_laid {W : World} (h : laidMet Tryd.prog Rows.fnNmLettersRow.laid W) : TabsL W := by
  have h1 := Lib.laidMet.reads h (.tail _ (.head _))
  have h2 := Lib.laidMet.reads h (.tail _ (.tail _ (.head _)))
  have h3 := Lib.laidMet.reads h (.head _)
  rw [eqCase] at h1
  rw [eqFirst] at h2
  rw [eqAccept] at h3
  exact ⟨caseVar_of_reads lays_Lays_n274 lays_Lays_n159.t206 lays_CaseExtra h1, utf8Tabs_of_readsT lays_U8Types lays_U8Extra h2 h3⟩
theorem tabsL_below {w w' : World} (h : TabsL w) (hb : Below w.heap.size w w') : TabsL w' :=
  ⟨Lib.CaseVar_below h.case hb, Utf8Tabs_below h.utf hb⟩
theorem walk (a0 : ByteArray) (a1 : Int) (W : World) (hL : laidMet Tryd.prog Rows.fnNmLettersRow.laid W) :
    Calls Tryd.prog 4 #[.string a0, .int .u8 a1] W fun e w' => e = .returned (.bool true) ∧ Below W.heap.size W w' := by
  obtain ⟨L, rfl⟩ : ∃ L, a0 = tx L := ⟨a0.data.toList, rfl⟩
  by_cases h : L.length ≤ 2147483647
  · exact walk_main L h a1 W fun w hb => tabsL_below (tabsL_of_laid hL) hb
  · exact walk_long L (by omega) a1 W

theorem own : ownKnob Tryd.prog.godebug = none := by kernel_rfl
theorem laidOut : laidOutB Tryd.prog = true := by kernel_rfl
theorem laid_plain (W : World) (h : laidMetH Tryd.prog Rows.fnNmLettersRow.laid W) : laidMet Tryd.prog Rows.fnNmLettersRow.laid W := by
  rw [MakeChecks.laidMetH_plain _ _ _ (by kernel_rfl)] at h; exact h
set_option maxRecDepth 100000 in
theorem lifted (os : Os) (started : os.Started) (H : Type) (enc : TypeId × Value → H) :
    ReturnsInHanded {} Tryd.checked os 4 .any (fun w args => (Rows.fnNmLettersSpec.pre enc Tryd.prog Tryd.f4 [] false w args ∧ laidMetH Tryd.prog Rows.fnNmLettersRow.laid w) ∧ sizedMet enc Tryd.prog Tryd.f4 (OpenSpec.ofChange Rows.fnNmLettersSpec) false w args)
      (Rows.fnNmLettersSpec.post enc Tryd.prog Tryd.f4 false true false false) := by
  refine returnsInHanded_of_change_and (C := Tryd.checked) (X := fun w _ => laidMetH Tryd.prog Rows.fnNmLettersRow.laid w) (fun _ _ _ hh h => h.of_heap hh) own started (by kernel_rfl) Tryd.func4
    (ChangeSpec.witness_shaped (enc := enc) (C := Tryd.checked) (os := os) (X := fun w _ => laidMetH Tryd.prog Rows.fnNmLettersRow.laid w) false (World.laidAll Tryd.prog os Rows.fnNmLettersRow.laid) #[.string ⟨#[]⟩, .int .u8 0] 8 (World.laidAll_os _ _ _)
      (World.shaped_of_ZipB (by kernel_rfl) (by kernel_rfl)) (by kernel_rfl) (by kernel_rfl) (by kernel_rfl)
      (by rw [MakeChecks.laidMetH_plain _ _ _ (by kernel_rfl)]; exact laidMet_laidAll _ (by kernel_rfl) (by kernel_rfl))) ?_
  intro W base args ds gs before hval0 hW _ _ hL0 _
  have hval : ∀ (j : Nat) t v, Tryd.f4.params[j]? = some t → args[j]? = some v → Value.okWide Tryd.prog W .any base t v := hval0
  have hW' := hW
  obtain ⟨p, q, hA0, hV, rfl, hfz, hnd⟩ := hW
  have hA : DataW.TrodAll enc Tryd.prog W 0 (fun _ => true) true Tryd.f4.params.toList args.toList ds p := hA0
  rw [Tryd.params4] at hA hval
  obtain ⟨v0, vs0, d0, ds0, p0, q0, hargs0, rfl, rfl, h0, r0⟩ := trodAll_cons hA
  obtain ⟨v1, vs1, d1, ds1, p1, q1, hargs1, rfl, rfl, h1, r1⟩ := trodAll_cons r0
  obtain ⟨hnil, rfl, rfl⟩ := trodAll_nil r1
  obtain rfl : args = #[v0, v1] := by cases args; simp_all
  obtain ⟨rfl, rfl⟩ := trodVars_none hV
  have hlt := hW'.lt
  have k0 := h0
  obtain ⟨a0, rfl, rfl, rfl, w0⟩ := Go.ChangeMaps.open_string Tryd.underlying9 (hval 0 9 v0 rfl rfl) h0
  have k1 := h1
  obtain ⟨a1, rfl, rfl, rfl, w1⟩ := open_int Tryd.underlying5 (hval 1 5 v1 rfl rfl) h1
  clear hA0 hval0
  have hL := laid_plain W hL0
  refine (walk a0 a1 W hL).mono fun e W' ⟨he, hg⟩ => ?_
  subst he
  exact ⟨_, rfl, post_of_below (pa := [] ++ ([] ++ ([]))) (pv := []) hW' (fun _ _ _ => (trodAll_cons_mk (shut_bool Tryd.underlying4 _) trodAll_mk0)) (fun sp hsp => (trodAll_cons_mk (trod_keep laidOut (by kernel_rfl) (of_decide_eq_true (by kernel_rfl)) k0 hg (fun _ h => by cases h) (fun _ h => by cases h)) (trodAll_cons_mk (trod_keep laidOut (by kernel_rfl) (of_decide_eq_true (by kernel_rfl)) k1 hg (fun _ h => by cases h) (fun _ h => by cases h)) trodAll_mk0))) (fun _ _ => rfl) rfl hg (ok_one (by kernel_rfl) rfl (okWide_bool_mk Tryd.underlying4 _))⟩
theorem over : Rows.fnNmLettersRow.holds Tryd.pinned (OpenSpec.ofChange Rows.fnNmLettersSpec) :=
  OpenClaim.holds_of_wide 4 Tryd.f4 rfl rfl rfl rfl rfl rfl rfl ⟨rfl, rfl, rfl, rfl, rfl⟩ rfl rfl rfl rfl rfl (by kernel_rfl) Tryd.func4 (by kernel_rfl)
    (of_decide_eq_true (by kernel_rfl)) (by unfold Func.isWrapper; first | (rw [if_pos (by decide +kernel)]; kernel_rfl) | (rw [if_neg (by decide +kernel)]; exact ⟨rfl, rfl⟩))
    (fun os started H enc _ => lifted os started H enc)
/-- The statement: the tied card. -/
theorem proved : Rows.FnNmLettersCardSaid :=
  Claim7.holds_tied_plain_at .later [] [.data, .pinned, .pinned] true (true, "869ed70e0871a02185ec953360436c50acca520346e91e8a2418005467b3dc89") false
    over (fun _ h => by cases h) (by kernel_rfl) (fun _ h => by cases h) fnNmLetters_row_tie rfl ⟨rfl, rfl⟩ (by kernel_rfl) rfl
    (fun f fn hf hfn => by
      obtain rfl : f = 4 := Option.some.inj ((show Tryd.prog.funcNamed "pub-fianchetto/laws.FnNmLetters" = some 4 by kernel_rfl).symm.trans hf) |>.symm
      obtain rfl : fn = Tryd.f4 := (Option.some.inj (Tryd.func4.symm.trans hfn)).symm
      exact ⟨by kernel_rfl, fun j t ht => by
        rw [Tryd.params4] at ht
        have hm : t ∈ [9, 5] := by simpa using Array.mem_of_getElem? ht
        have hall : ([9, 5].all fun u => !Tryd.prog.wantsStandIn u) = true := by kernel_rfl
        exact (show Tryd.prog.wantsStandIn t = false by simpa using List.all_eq_true.1 hall t hm)⟩)
    (by kernel_rfl)
#print axioms proved
end Go.Proofs.YtkbbncobgmepbaaDoor.Letters

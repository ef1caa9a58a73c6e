/- For every text: the law FnBdRead (the reading of a board's text) returns true. The tied card: fenCharToPiece and allPieces hold what the program's text lays in them. -/
import Derived.Test.YtnlicbhelnocpaaDoorReadL
import Derived.Test.YtnlicbhelnocpaaDoorKeep
import Derived.Test.YtnlicbhelnocpaaDoorTie
import Derived.Test.YtnlicbhelnocpaaDoorCards
import Derived.SevenTiedAt
import Derived.ChangeMaps5
namespace Go.Proofs.YtnlicbhelnocpaaDoor.BdRead
open Go.ChangeShapes Go.WideShapes Go.ChangeAt Go.RowKit Go.Maps Go.PlainAid Plain
set_option maxHeartbeats 4000000
set_option linter.unusedVariables false
set_option linter.unusedSimpArgs false

def tabC : List Int := [0, 0, 0, 0, 0, 0, 0, 0, 0, 0, 0, 0, 0, 0, 0, 0, 0, 0, 0, 0, 0, 0, 0, 0, 0, 0, 0, 0, 0, 0, 0, 0, 0, 0, 0, 0, 0, 0, 0, 0, 0, 0, 0, 0, 0, 0, 0, 0, 0, 0, 0, 0, 0, 0, 0, 0, 0, 0, 0, 0, 0, 0, 0, 0, 0, 0, 4, 0, 0, 0, 0, 0, 0, 0, 0, 1, 0, 0, 5, 0, 6, 2, 3, 0, 0, 0, 0, 0, 0, 0, 0, 0, 0, 0, 0, 0, 0, 0, 10, 0, 0, 0, 0, 0, 0, 0, 0, 7, 0, 0, 11, 0, 12, 8, 9, 0, 0, 0, 0, 0, 0, 0, 0, 0, 0, 0, 0, 0]
theorem tabC_kind : (List.range 128).all (fun i => tabC.getD i 0 == kindB (i : Nat)) = true := by kernel_rfl
theorem tabsF_of_laid {W : World} (h : laidMet Tryd.prog Rows.fnBdReadRow.laid W) : TabsF W := by
  have hf := tab_reads (zs := tabC) (n := 128) (show Tryd.prog.globalNamed "pub-fianchetto/pub/chess.fenCharToPiece" = some 6 by kernel_rfl) (show (Tryd.prog.globals[6]?).map (·.type) = some 149 by kernel_rfl) Tryd.underlying149 Tryd.underlying67 (by kernel_rfl) (by kernel_rfl) (Lib.laidMet.reads h (.head _))
  refine ⟨fun i hi => ?_⟩
  rw [hf i hi]
  have := List.all_eq_true.1 tabC_kind i (List.mem_range.2 hi)
  rw [beq_iff_eq] at this
  rw [this]
theorem walk (a0 : ByteArray) (W : World) (hL : laidMet Tryd.prog Rows.fnBdReadRow.laid W) :
    Calls Tryd.prog 6 #[.string a0] W fun e w' => e = .returned (.bool true) ∧ Below W.heap.size W w' := by
  have hT := tabsP_reads (Lib.laidMet.reads hL (.tail _ (.head _)))
  have hF := tabsF_of_laid hL
  by_cases h1 : a0.size ≤ 2147483647
  · by_cases h2 : a0.size ≤ 200
    · by_cases h3 : a0.size = 0
      · exact walk_short a0 h2 (.inl h3) W hT hF
      · by_cases h4 : bt a0 (a0.size - 1) = 47
        · exact walk_slash a0 h2 (by omega) h4 W hT hF
        · exact walk_short a0 h2 (.inr ⟨by omega, h4⟩) W hT hF
    · exact walk_200 a0 h1 (by omega) W hT hF
  · exact walk_long a0 (by omega) W

theorem own : ownKnob Tryd.prog.godebug = none := by kernel_rfl
theorem laidOut : laidOutB Tryd.prog = true := by kernel_rfl
theorem door_met (os : Os) (args : Array Value) : laidMetH Tryd.prog Rows.fnBdReadRow.laid ((World.doorLaid Tryd.prog 59 os).forCall (fun _ _ => 0) ⟨#[], args, []⟩).memory :=
  laidMetH_of_parts3 (fuel := 8) (laidMet_of_run' 8 (by kernel_rfl) (by kernel_rfl)) (by kernel_rfl) (by kernel_rfl)
theorem laid_plain (W : World) (h : laidMetH Tryd.prog Rows.fnBdReadRow.laid W) : laidMet Tryd.prog Rows.fnBdReadRow.laid W := by
  rw [MakeChecks.laidMetH_plain _ _ _ (by kernel_rfl)] at h; exact h
set_option maxRecDepth 100000 in
theorem lifted (os : Os) (started : os.Started) (H : Type) (enc : TypeId × Value → H) :
    ReturnsInHanded {} Tryd.checked os 6 .any (fun w args => (Rows.fnBdReadSpec.pre enc Tryd.prog Tryd.f6 [] false w args ∧ laidMetH Tryd.prog Rows.fnBdReadRow.laid w) ∧ sizedMet enc Tryd.prog Tryd.f6 (OpenSpec.ofChange Rows.fnBdReadSpec) false w args)
      (Rows.fnBdReadSpec.post enc Tryd.prog Tryd.f6 false true false false) := by
  refine returnsInHanded_of_change_and (C := Tryd.checked) (X := fun w _ => laidMetH Tryd.prog Rows.fnBdReadRow.laid w) (fun _ _ _ hh h => h.of_heap hh) own started (by kernel_rfl) Tryd.func6
    (ChangeSpec.witness_shaped (enc := enc) (C := Tryd.checked) (os := os) (X := fun w _ => laidMetH Tryd.prog Rows.fnBdReadRow.laid w) false (World.doorLaid Tryd.prog 59 os) #[.string ⟨#[]⟩] 8 rfl (World.shaped_of_RefB (by kernel_rfl) (by kernel_rfl)) (by kernel_rfl) (by kernel_rfl) (by kernel_rfl) (door_met os _)) ?_
  intro W base args ds gs before hval0 hW _ _ hL0 _
  have hval : ∀ (j : Nat) t v, Tryd.f6.params[j]? = some t → args[j]? = some v → Value.okWide Tryd.prog W .any base t v := hval0
  have hW' := hW
  obtain ⟨p, q, hA0, hV, rfl, hfz, hnd⟩ := hW
  have hA : DataW.TrodAll enc Tryd.prog W 0 (fun _ => true) true Tryd.f6.params.toList args.toList ds p := hA0
  rw [Tryd.params6] at hA hval
  obtain ⟨v0, vs0, d0, ds0, p0, q0, hargs0, rfl, rfl, h0, r0⟩ := trodAll_cons hA
  obtain ⟨hnil, rfl, rfl⟩ := trodAll_nil r0
  obtain rfl : args = #[v0] := by cases args; simp_all
  obtain ⟨rfl, rfl⟩ := trodVars_none hV
  have hlt := hW'.lt
  have k0 := h0
  obtain ⟨a0, rfl, rfl, rfl, w0⟩ := Go.ChangeMaps.open_string Tryd.underlying9 (hval 0 9 v0 rfl rfl) h0
  clear hA0 hval0
  have hL := laid_plain W hL0
  refine (walk a0 W hL).mono fun e W' ⟨he, hg⟩ => ?_
  subst he
  exact ⟨_, rfl, post_of_below (pa := [] ++ ([])) (pv := []) hW' (fun _ _ _ => (trodAll_cons_mk (shut_bool Tryd.underlying4 _) trodAll_mk0)) (fun sp hsp => (trodAll_cons_mk (trod_keep laidOut (by kernel_rfl) (of_decide_eq_true (by kernel_rfl)) k0 hg (fun _ h => by cases h) (fun _ h => by cases h)) trodAll_mk0)) (fun _ _ => rfl) rfl hg (ok_one (by kernel_rfl) rfl (okWide_bool_mk Tryd.underlying4 _))⟩
theorem over : Rows.fnBdReadRow.holds Tryd.pinned (OpenSpec.ofChange Rows.fnBdReadSpec) :=
  OpenClaim.holds_of_wide 6 Tryd.f6 rfl rfl rfl rfl rfl rfl rfl ⟨rfl, rfl, rfl, rfl, rfl⟩ rfl rfl rfl rfl rfl (by kernel_rfl) Tryd.func6 (by kernel_rfl)
    (of_decide_eq_true (by kernel_rfl)) (by unfold Func.isWrapper; first | (rw [if_pos (by decide +kernel)]; kernel_rfl) | (rw [if_neg (by decide +kernel)]; exact ⟨rfl, rfl⟩))
    (fun os started H enc _ => lifted os started H enc)
/-- The statement: the tied card. -/
theorem proved : Rows.FnBdReadCardSaid :=
  Claim7.holds_tied_plain_at .later [] [.data, .data] true (true, "7422e9ccb63107bab447864fd415093510f8a49c4ca9b7fd30f4689052bdd4c6") false
    over (fun _ h => by cases h) (by kernel_rfl) (fun _ h => by cases h) fnBdRead_row_tie rfl ⟨rfl, rfl⟩ (by kernel_rfl) rfl
    (fun f fn hf hfn => by
      obtain rfl : f = 6 := Option.some.inj ((show Tryd.prog.funcNamed "pub-fianchetto/laws.FnBdRead" = some 6 by kernel_rfl).symm.trans hf) |>.symm
      obtain rfl : fn = Tryd.f6 := (Option.some.inj (Tryd.func6.symm.trans hfn)).symm
      exact ⟨by kernel_rfl, fun j t ht => by
        rw [Tryd.params6] at ht
        have hm : t ∈ [9] := by simpa using Array.mem_of_getElem? ht
        have hall : ([9].all fun u => !Tryd.prog.wantsStandIn u) = true := by kernel_rfl
        exact (show Tryd.prog.wantsStandIn t = false by simpa using List.all_eq_true.1 hall t hm)⟩)
    (by kernel_rfl)
#print axioms proved
end Go.Proofs.YtnlicbhelnocpaaDoor.BdRead

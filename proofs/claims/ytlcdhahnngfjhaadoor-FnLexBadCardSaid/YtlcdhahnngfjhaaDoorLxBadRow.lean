/- For all five numbers: the law FnLexBad (what is no part of a move is told as bad) returns true. The tied card: the tables of blanks and of letters hold what the library's text lays in them. -/
import Derived.Test.YtlcdhahnngfjhaaDoorLxQ
import Derived.Test.YtlcdhahnngfjhaaDoorPost
import Derived.Test.YtlcdhahnngfjhaaDoorKeep
import Derived.Test.YtlcdhahnngfjhaaDoorTie
import Derived.Test.YtlcdhahnngfjhaaDoorCards
import Derived.SevenTiedAt
import Derived.Lib.LaidU8
import Derived.LaidMore
import Derived.Lay
namespace Go.Proofs.YtlcdhahnngfjhaaDoor.LexBad
open Go.ChangeShapes Go.WideShapes Go.ChangeAt Go.RowKit Go.Lib
set_option maxHeartbeats 4000000
set_option linter.unusedVariables false
set_option linter.unusedSimpArgs false

theorem tab_is {P : Program} {W : World} {name : String} {k : IntKind} {zs : List Int} {g : Nat} {t e : TypeId} {n : Nat}
    (hg : P.globalNamed name = some g) (hty : (P.globals[g]?).map (·.type) = some t) (ht : P.underlying t = some (.array n e)) (he : P.underlying e = some (.int k)) (hce : P.cellsOf e = 1) (hct : P.cellsOf t = n)
    (h : Lib.VarReads P W name (Lib.tabData k zs)) : Lib.TabIs P W name k zs := by
  obtain ⟨g', t', cs, fuel, p, hg', ht', hvar, hd⟩ := h
  obtain rfl := Option.some.inj (hg.symm.trans hg')
  obtain rfl := Option.some.inj (hty.symm.trans ht')
  unfold Lib.TabIs
  rw [hvar, ← Lib.cells_of_tab ht he hce hct hd]
set_option maxRecDepth 1000000 in
theorem laid_sp {H : Type} : (Rows.laid_strings_asciiSpace : DataW H) = Lib.tabData .u8 Lib.asciiSpaceTab := by rfl
set_option maxRecDepth 1000000 in
theorem laid_pr {H : Type} : (Rows.laid_unicode_properties : DataW H) = Lib.tabData .u8 Lib.propertiesTab := by rfl
theorem tabs_of_laid {W : World} (h : laidMet Tryd.prog Rows.fnLexBadRow.laid W) : LTabs W := by
  have h1 := Lib.laidMet.reads (n := "strings.asciiSpace") (d := Rows.laid_strings_asciiSpace) h (.tail _ (.tail _ (.tail _ (.head _))))
  have h2 := Lib.laidMet.reads (n := "unicode.properties") (d := Rows.laid_unicode_properties) h (.tail _ (.tail _ (.head _)))
  rw [laid_sp] at h1
  rw [laid_pr] at h2
  exact ⟨tab_is (n := 256) (show Tryd.prog.globalNamed "strings.asciiSpace" = some 2 by kernel_rfl) (show (Tryd.prog.globals[2]?).map (·.type) = some 67 by kernel_rfl) Tryd.underlying67 Tryd.underlying5 (by kernel_rfl) (by kernel_rfl) h1,
    tab_is (n := 256) (show Tryd.prog.globalNamed "unicode.properties" = some 0 by kernel_rfl) (show (Tryd.prog.globals[0]?).map (·.type) = some 67 by kernel_rfl) Tryd.underlying67 Tryd.underlying5 (by kernel_rfl) (by kernel_rfl) h2⟩
theorem walk (a0 : Int) (w0 : (Lit.int .u8 a0).wf = true) (a1 : Int) (w1 : (Lit.int .u8 a1).wf = true) (a2 : Int) (w2 : (Lit.int .u8 a2).wf = true) (a3 : Int) (w3 : (Lit.int .u8 a3).wf = true) (a4 : Int) (w4 : (Lit.int .u8 a4).wf = true) (W : World) (hL : laidMet Tryd.prog Rows.fnLexBadRow.laid W) :
    Calls Tryd.prog 3 #[.int .u8 a0, .int .u8 a1, .int .u8 a2, .int .u8 a3, .int .u8 a4] W fun e w' => e = .returned (.bool true) ∧ Below W.heap.size W w' :=
  lexBad_a a0 a1 a2 a3 a4 (bounds_u8 w0) (bounds_u8 w1) (bounds_u8 w2) (bounds_u8 w3) (bounds_u8 w4) W (tabs_of_laid hL)

theorem own : ownKnob Tryd.prog.godebug = none := by kernel_rfl
theorem laidOut : laidOutB Tryd.prog = true := by kernel_rfl
theorem laid_plain (W : World) (h : laidMetH Tryd.prog Rows.fnLexBadRow.laid W) : laidMet Tryd.prog Rows.fnLexBadRow.laid W := by
  rw [MakeChecks.laidMetH_plain _ _ _ (by kernel_rfl)] at h; exact h
set_option maxRecDepth 100000 in
theorem lifted (os : Os) (started : os.Started) (H : Type) (enc : TypeId × Value → H) :
    ReturnsInHanded {} Tryd.checked os 3 .any (fun w args => (Rows.fnLexBadSpec.pre enc Tryd.prog Tryd.f3 [] false w args ∧ laidMetH Tryd.prog Rows.fnLexBadRow.laid w) ∧ sizedMet enc Tryd.prog Tryd.f3 (OpenSpec.ofChange Rows.fnLexBadSpec) false w args)
      (Rows.fnLexBadSpec.post enc Tryd.prog Tryd.f3 false true false false) := by
  refine returnsInHanded_of_change_and (C := Tryd.checked) (X := fun w _ => laidMetH Tryd.prog Rows.fnLexBadRow.laid w) (fun _ _ _ hh h => h.of_heap hh) own started (by kernel_rfl) Tryd.func3
    (ChangeSpec.witness_shaped (enc := enc) (C := Tryd.checked) (os := os) (X := fun w _ => laidMetH Tryd.prog Rows.fnLexBadRow.laid w) false (World.laidAll Tryd.prog os Rows.fnLexBadRow.laid) #[.int .u8 0, .int .u8 0, .int .u8 0, .int .u8 0, .int .u8 0] 8 (World.laidAll_os _ _ _)
      (World.shaped_of_ZipB (by kernel_rfl) (by kernel_rfl)) (by kernel_rfl) (by kernel_rfl) (by kernel_rfl)
      (by rw [MakeChecks.laidMetH_plain _ _ _ (by kernel_rfl)]; exact laidMet_laidAll _ (by kernel_rfl) (by kernel_rfl))) ?_
  intro W base args ds gs before hval0 hW _ _ hL0 _
  have hval : ∀ (j : Nat) t v, Tryd.f3.params[j]? = some t → args[j]? = some v → Value.okWide Tryd.prog W .any base t v := hval0
  have hW' := hW
  obtain ⟨p, q, hA0, hV, rfl, hfz, hnd⟩ := hW
  have hA : DataW.TrodAll enc Tryd.prog W 0 (fun _ => true) true Tryd.f3.params.toList args.toList ds p := hA0
  rw [Tryd.params3] at hA hval
  obtain ⟨v0, vs0, d0, ds0, p0, q0, hargs0, rfl, rfl, h0, r0⟩ := trodAll_cons hA
  obtain ⟨v1, vs1, d1, ds1, p1, q1, hargs1, rfl, rfl, h1, r1⟩ := trodAll_cons r0
  obtain ⟨v2, vs2, d2, ds2, p2, q2, hargs2, rfl, rfl, h2, r2⟩ := trodAll_cons r1
  obtain ⟨v3, vs3, d3, ds3, p3, q3, hargs3, rfl, rfl, h3, r3⟩ := trodAll_cons r2
  obtain ⟨v4, vs4, d4, ds4, p4, q4, hargs4, rfl, rfl, h4, r4⟩ := trodAll_cons r3
  obtain ⟨hnil, rfl, rfl⟩ := trodAll_nil r4
  obtain rfl : args = #[v0, v1, v2, v3, v4] := by cases args; simp_all
  obtain ⟨rfl, rfl⟩ := trodVars_none hV
  have hlt := hW'.lt
  have k0 := h0
  obtain ⟨a0, rfl, rfl, rfl, w0⟩ := open_int Tryd.underlying5 (hval 0 5 v0 rfl rfl) h0
  have k1 := h1
  obtain ⟨a1, rfl, rfl, rfl, w1⟩ := open_int Tryd.underlying5 (hval 1 5 v1 rfl rfl) h1
  have k2 := h2
  obtain ⟨a2, rfl, rfl, rfl, w2⟩ := open_int Tryd.underlying5 (hval 2 5 v2 rfl rfl) h2
  have k3 := h3
  obtain ⟨a3, rfl, rfl, rfl, w3⟩ := open_int Tryd.underlying5 (hval 3 5 v3 rfl rfl) h3
  have k4 := h4
  obtain ⟨a4, rfl, rfl, rfl, w4⟩ := open_int Tryd.underlying5 (hval 4 5 v4 rfl rfl) h4
  clear hA0 hval0
  have hL := laid_plain W hL0
  refine (walk a0 w0 a1 w1 a2 w2 a3 w3 a4 w4 W hL).mono fun e W' ⟨he, hg⟩ => ?_
  subst he
  exact ⟨_, rfl, post_of_below (pa := [] ++ ([] ++ ([] ++ ([] ++ ([] ++ ([])))))) (pv := []) hW' (fun _ _ _ => (trodAll_cons_mk (shut_bool Tryd.underlying4 _) trodAll_mk0)) (fun sp hsp => (trodAll_cons_mk (trod_keep laidOut (by kernel_rfl) (of_decide_eq_true (by kernel_rfl)) k0 hg (fun _ h => by cases h) (fun _ h => by cases h)) (trodAll_cons_mk (trod_keep laidOut (by kernel_rfl) (of_decide_eq_true (by kernel_rfl)) k1 hg (fun _ h => by cases h) (fun _ h => by cases h)) (trodAll_cons_mk (trod_keep laidOut (by kernel_rfl) (of_decide_eq_true (by kernel_rfl)) k2 hg (fun _ h => by cases h) (fun _ h => by cases h)) (trodAll_cons_mk (trod_keep laidOut (by kernel_rfl) (of_decide_eq_true (by kernel_rfl)) k3 hg (fun _ h => by cases h) (fun _ h => by cases h)) (trodAll_cons_mk (trod_keep laidOut (by kernel_rfl) (of_decide_eq_true (by kernel_rfl)) k4 hg (fun _ h => by cases h) (fun _ h => by cases h)) trodAll_mk0)))))) (fun _ _ => rfl) rfl hg (ok_one (by kernel_rfl) rfl (okWide_bool_mk Tryd.underlying4 _))⟩
theorem over : Rows.fnLexBadRow.holds Tryd.pinned (OpenSpec.ofChange Rows.fnLexBadSpec) :=
  OpenClaim.holds_of_wide 3 Tryd.f3 rfl rfl rfl rfl rfl rfl rfl ⟨rfl, rfl, rfl, rfl, rfl⟩ rfl rfl rfl rfl rfl (by kernel_rfl) Tryd.func3 (by kernel_rfl)
    (of_decide_eq_true (by kernel_rfl)) (by unfold Func.isWrapper; first | (rw [if_pos (by decide +kernel)]; kernel_rfl) | (rw [if_neg (by decide +kernel)]; exact ⟨rfl, rfl⟩))
    (fun os started H enc _ => lifted os started H enc)
/-- The statement: the tied card. -/
theorem proved : Rows.FnLexBadCardSaid :=
  Claim7.holds_tied_plain_at .later [] [.data, .listed, .data, .data, .pinned, .pinned] true (true, "c80e2dd615c2f688e286f818231f2e1fe371d125936687531001c71d6c309e02") false
    over (fun _ h => by cases h) (by kernel_rfl) (fun _ h => by cases h) fnLexBad_row_tie rfl ⟨rfl, rfl⟩ (by kernel_rfl) rfl
    (fun f fn hf hfn => by
      obtain rfl : f = 3 := Option.some.inj ((show Tryd.prog.funcNamed "pub-fianchetto/laws.FnLexBad" = some 3 by kernel_rfl).symm.trans hf) |>.symm
      obtain rfl : fn = Tryd.f3 := (Option.some.inj (Tryd.func3.symm.trans hfn)).symm
      exact ⟨by kernel_rfl, fun j t ht => by
        rw [Tryd.params3] at ht
        have hm : t ∈ [5, 5, 5, 5, 5] := by simpa using Array.mem_of_getElem? ht
        have hall : ([5, 5, 5, 5, 5].all fun u => !Tryd.prog.wantsStandIn u) = true := by kernel_rfl
        exact (show Tryd.prog.wantsStandIn t = false by simpa using List.all_eq_true.1 hall t hm)⟩)
    (by kernel_rfl)
#print axioms proved
end Go.Proofs.YtlcdhahnngfjhaaDoor.LexBad

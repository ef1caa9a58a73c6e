/- For every number of 64 bits and every byte: the law FnBiAttacks (what a bishop and a rook see from a square) returns true. The tied card: the tables bbFiles, bbRanks, bbDiagonals and bbAntiDiagonals hold what the program's text lays in them. -/
import Derived.Test.YtofjlnillbphkaaDoorAttacks
import Derived.Test.YtofjlnillbphkaaDoorLaid
import Derived.Test.YtofjlnillbphkaaDoorTie
import Derived.Test.YtofjlnillbphkaaDoorCards
import Derived.SevenTiedAt
namespace Go.Proofs.YtofjlnillbphkaaDoor.Attacks
open Go.ChangeShapes Go.WideShapes Go.ChangeAt Go.RowKit Plain
set_option linter.unusedVariables false

theorem tabs_of_laid {W : World} (h : laidMet Tryd.prog Rows.fnBiAttacksRow.laid W) : Tabs W := by
  have hf := tab_reads (zs := files.map Int.ofNat) (n := 8) (show Tryd.prog.globalNamed "pub-fianchetto/pub/chess.bbFiles" = some 4 by kernel_rfl) (show (Tryd.prog.globals[4]?).map (·.type) = some 64 by kernel_rfl) Tryd.underlying64 Tryd.underlying51 (by kernel_rfl) (by kernel_rfl) (Lib.laidMet.reads h (.head _))
  have hr := tab_reads (zs := ranks.map Int.ofNat) (n := 8) (show Tryd.prog.globalNamed "pub-fianchetto/pub/chess.bbRanks" = some 3 by kernel_rfl) (show (Tryd.prog.globals[3]?).map (·.type) = some 64 by kernel_rfl) Tryd.underlying64 Tryd.underlying51 (by kernel_rfl) (by kernel_rfl) (Lib.laidMet.reads h (.tail _ (.head _)))
  have hd := tab_reads (zs := diagonals.map Int.ofNat) (n := 64) (show Tryd.prog.globalNamed "pub-fianchetto/pub/chess.bbDiagonals" = some 1 by kernel_rfl) (show (Tryd.prog.globals[1]?).map (·.type) = some 62 by kernel_rfl) Tryd.underlying62 Tryd.underlying51 (by kernel_rfl) (by kernel_rfl) (Lib.laidMet.reads h (.tail _ (.tail _ (.head _))))
  have ha := tab_reads (zs := antiDiagonals.map Int.ofNat) (n := 64) (show Tryd.prog.globalNamed "pub-fianchetto/pub/chess.bbAntiDiagonals" = some 2 by kernel_rfl) (show (Tryd.prog.globals[2]?).map (·.type) = some 62 by kernel_rfl) Tryd.underlying62 Tryd.underlying51 (by kernel_rfl) (by kernel_rfl) (Lib.laidMet.reads h (.tail _ (.tail _ (.tail _ (.head _)))))
  have key : ∀ (l : List Nat) (i : Nat), (l.all fun n => decide (n < 18446744073709551616)) = true → (l.map Int.ofNat).getD i 0 = tn (BitVec.ofNat 64 (l.getD i 0)) := by
    intro l i hl
    unfold tn
    rw [tab_toNat hl]
    by_cases hi : i < l.length <;> simp [List.getD, hi]
  refine ⟨fun i hi => ?_, fun i hi => ?_, fun i hi => ?_, fun i hi => ?_⟩
  · rw [hd i hi, key _ _ (by decide)]
  · rw [ha i hi, key _ _ (by decide)]
  · rw [hr i hi, key _ _ (by decide)]
  · rw [hf i hi, key _ _ (by decide)]

theorem walk (a0 : Int) (w0 : (Lit.int .u64 a0).wf = true) (a1 : Int) (w1 : (Lit.int .u8 a1).wf = true) (W : World) (hL : laidMet Tryd.prog Rows.fnBiAttacksRow.laid W) :
    Calls Tryd.prog 3 #[.int .u64 a0, .int .u8 a1] W fun e w' => e = .returned (.bool true) ∧ Below W.heap.size W w' := by
  have h0 := bounds_u64 w0
  have h1 := bounds_u8 w1
  rw [of_tn a0 h0.1 (by omega)]
  exact attacks_walk _ a1 h1.1 h1.2 W (tabs_of_laid hL)

theorem own : ownKnob Tryd.prog.godebug = none := by kernel_rfl
theorem door_met (os : Os) (args : Array Value) : laidMetH Tryd.prog Rows.fnBiAttacksRow.laid ((World.doorLaid Tryd.prog 44 os).forCall (fun _ _ => 0) ⟨#[], args, []⟩).memory :=
  laidMetH_of_parts3 (fuel := 8) (laidMet_of_run' 8 (by kernel_rfl) (by kernel_rfl)) (by kernel_rfl) (by kernel_rfl)
theorem laid_plain (W : World) (h : laidMetH Tryd.prog Rows.fnBiAttacksRow.laid W) : laidMet Tryd.prog Rows.fnBiAttacksRow.laid W := by
  rw [MakeChecks.laidMetH_plain _ _ _ (by kernel_rfl)] at h; exact h
set_option maxRecDepth 100000 in
theorem lifted (os : Os) (started : os.Started) (H : Type) (enc : TypeId × Value → H) :
    ReturnsInHanded {} Tryd.checked os 3 .any (fun w args => (Rows.fnBiAttacksSpec.pre enc Tryd.prog Tryd.f3 [] false w args ∧ laidMetH Tryd.prog Rows.fnBiAttacksRow.laid w) ∧ sizedMet enc Tryd.prog Tryd.f3 (OpenSpec.ofChange Rows.fnBiAttacksSpec) false w args)
      (Rows.fnBiAttacksSpec.post enc Tryd.prog Tryd.f3 false true false false) := by
  refine returnsInHanded_of_change_and (C := Tryd.checked) (X := fun w _ => laidMetH Tryd.prog Rows.fnBiAttacksRow.laid w) (fun _ _ _ hh h => h.of_heap hh) own started (by kernel_rfl) Tryd.func3
    (ChangeSpec.witness_shaped (enc := enc) (C := Tryd.checked) (os := os) (X := fun w _ => laidMetH Tryd.prog Rows.fnBiAttacksRow.laid w) false (World.doorLaid Tryd.prog 44 os) #[.int .u64 0, .int .u8 0] 8 rfl (World.shaped_of_RefB (by kernel_rfl) (by kernel_rfl)) (by kernel_rfl) (by kernel_rfl) (by kernel_rfl) (door_met os _)) ?_
  intro W base args ds gs before hval0 hW _ _ hL0 _
  have hval : ∀ (j : Nat) t v, Tryd.f3.params[j]? = some t → args[j]? = some v → Value.okWide Tryd.prog W .any base t v := hval0
  have hW' := hW
  obtain ⟨p, q, hA0, hV, rfl, hfz, hnd⟩ := hW
  have hA : DataW.TrodAll enc Tryd.prog W 0 (fun _ => true) true Tryd.f3.params.toList args.toList ds p := hA0
  rw [Tryd.params3] at hA hval
  obtain ⟨v0, vs0, d0, ds0, p0, q0, hargs0, rfl, rfl, h0, r0⟩ := trodAll_cons hA
  obtain ⟨v1, vs1, d1, ds1, p1, q1, hargs1, rfl, rfl, h1, r1⟩ := trodAll_cons r0
  obtain ⟨hnil, rfl, rfl⟩ := trodAll_nil r1
  obtain rfl : args = #[v0, v1] := by cases args; simp_all
  obtain ⟨rfl, rfl⟩ := trodVars_none hV
  obtain ⟨a0, rfl, rfl, rfl, w0⟩ := open_int Tryd.underlying22 (hval 0 22 v0 rfl rfl) h0
  obtain ⟨a1, rfl, rfl, rfl, w1⟩ := open_int Tryd.underlying5 (hval 1 5 v1 rfl rfl) h1
  clear hA0 hval0
  simp only [List.append_nil] at hW'
  have hL := laid_plain W hL0
  refine (walk a0 w0 a1 w1 W hL).mono fun e W' ⟨he, hg⟩ => ?_
  subst he
  exact ⟨_, rfl, post_of_below (pa := []) (pv := []) hW' (fun _ _ _ => (trodAll_cons_mk (shut_bool Tryd.underlying4 _) trodAll_mk0)) (fun sp _ => (trodAll_cons_mk (shut_int Tryd.underlying22 w0) (trodAll_cons_mk (shut_int Tryd.underlying5 w1) trodAll_mk0))) (fun _ _ => rfl) rfl hg (ok_one (by kernel_rfl) rfl (okWide_bool_mk Tryd.underlying4 _))⟩
theorem over : Rows.fnBiAttacksRow.holds Tryd.pinned (OpenSpec.ofChange Rows.fnBiAttacksSpec) :=
  OpenClaim.holds_of_wide 3 Tryd.f3 rfl rfl rfl rfl rfl rfl rfl ⟨rfl, rfl, rfl, rfl, rfl⟩ rfl rfl rfl rfl rfl (by kernel_rfl) Tryd.func3 (by kernel_rfl)
    (of_decide_eq_true (by kernel_rfl)) (by unfold Func.isWrapper; first | (rw [if_pos (by decide +kernel)]; kernel_rfl) | (rw [if_neg (by decide +kernel)]; exact ⟨rfl, rfl⟩))
    (fun os started H enc _ => lifted os started H enc)
/-- The statement: the tied card. -/
theorem proved : Rows.FnBiAttacksCardSaid :=
  Claim7.holds_tied_plain_at .later [] [.data, .data, .data, .data] true (true, "6205842dd6a82506210576e1fd303833ea1a4e1dfac0a05a5a4ecf861df6f56f") false
    over (fun _ h => by cases h) (by kernel_rfl) (fun _ h => by cases h) fnBiAttacks_row_tie rfl ⟨rfl, rfl⟩ (by kernel_rfl) rfl
    (fun f fn hf hfn => by
      obtain rfl : f = 3 := Option.some.inj ((show Tryd.prog.funcNamed "pub-fianchetto/laws.FnBiAttacks" = some 3 by kernel_rfl).symm.trans hf) |>.symm
      obtain rfl : fn = Tryd.f3 := (Option.some.inj (Tryd.func3.symm.trans hfn)).symm
      exact ⟨by kernel_rfl, fun j t ht => by
        rw [Tryd.params3] at ht
        have hm : t ∈ [22, 5] := by simpa using Array.mem_of_getElem? ht
        have hall : ([22, 5].all fun u => !Tryd.prog.wantsStandIn u) = true := by kernel_rfl
        exact (show Tryd.prog.wantsStandIn t = false by simpa using List.all_eq_true.1 hall t hm)⟩)
    (by kernel_rfl)
#print axioms proved
end Go.Proofs.YtofjlnillbphkaaDoor.Attacks

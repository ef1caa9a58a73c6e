/- For every position: the law FnMvCheck (check is told just where the side to move is in check) returns true. The tied card: the tables of lines, jumps and steps, and the list of pieces, hold what the program's text lays in them. -/
import Derived.Test.YthdbgjhonnogpaaDoorCkR
import Derived.Test.YthdbgjhonnogpaaDoorOpenPos
import Derived.Test.YthdbgjhonnogpaaDoorKeep
import Derived.Test.YthdbgjhonnogpaaDoorTie
import Derived.Test.YthdbgjhonnogpaaDoorCards
import Derived.SevenTiedAt
namespace Go.Proofs.YthdbgjhonnogpaaDoor.MvCheck
open Go.ChangeShapes Go.WideShapes Go.ChangeAt Go.RowKit Plain
set_option maxHeartbeats 4000000
set_option linter.unusedVariables false
set_option linter.unusedSimpArgs false

theorem key (l : List Nat) (i : Nat) (hl : (l.all fun n => decide (n < 18446744073709551616)) = true) : (l.map Int.ofNat).getD i 0 = tn (BitVec.ofNat 64 (l.getD i 0)) := by
  unfold tn
  rw [tab_toNatP hl]
  by_cases hi : i < l.length <;> simp [List.getD, hi]
theorem tabs_of_laid {W : World} (h : laidMet Tryd.prog Rows.fnMvCheckRow.laid W) : Tabs W ∧ KTabs W := by
  have hf := tab_reads (zs := files.map Int.ofNat) (n := 8) (show Tryd.prog.globalNamed "pub-fianchetto/pub/chess.bbFiles" = some 6 by kernel_rfl) (show (Tryd.prog.globals[6]?).map (·.type) = some 97 by kernel_rfl) Tryd.underlying97 Tryd.underlying71 (by kernel_rfl) (by kernel_rfl) (Lib.laidMet.reads h (.head _))
  have hr := tab_reads (zs := ranks.map Int.ofNat) (n := 8) (show Tryd.prog.globalNamed "pub-fianchetto/pub/chess.bbRanks" = some 5 by kernel_rfl) (show (Tryd.prog.globals[5]?).map (·.type) = some 97 by kernel_rfl) Tryd.underlying97 Tryd.underlying71 (by kernel_rfl) (by kernel_rfl) (Lib.laidMet.reads h (.tail _ (.head _)))
  have hd := tab_reads (zs := diagonals.map Int.ofNat) (n := 64) (show Tryd.prog.globalNamed "pub-fianchetto/pub/chess.bbDiagonals" = some 3 by kernel_rfl) (show (Tryd.prog.globals[3]?).map (·.type) = some 82 by kernel_rfl) Tryd.underlying82 Tryd.underlying71 (by kernel_rfl) (by kernel_rfl) (Lib.laidMet.reads h (.tail _ (.tail _ (.head _))))
  have ha := tab_reads (zs := antiDiagonals.map Int.ofNat) (n := 64) (show Tryd.prog.globalNamed "pub-fianchetto/pub/chess.bbAntiDiagonals" = some 4 by kernel_rfl) (show (Tryd.prog.globals[4]?).map (·.type) = some 82 by kernel_rfl) Tryd.underlying82 Tryd.underlying71 (by kernel_rfl) (by kernel_rfl) (Lib.laidMet.reads h (.tail _ (.tail _ (.tail _ (.head _)))))
  have hn := tab_reads (zs := knights.map Int.ofNat) (n := 64) (show Tryd.prog.globalNamed "pub-fianchetto/pub/chess.bbKnightMoves" = some 1 by kernel_rfl) (show (Tryd.prog.globals[1]?).map (·.type) = some 82 by kernel_rfl) Tryd.underlying82 Tryd.underlying71 (by kernel_rfl) (by kernel_rfl) (Lib.laidMet.reads h (.tail _ (.tail _ (.tail _ (.tail _ (.head _))))))
  have hk := tab_reads (zs := kings.map Int.ofNat) (n := 64) (show Tryd.prog.globalNamed "pub-fianchetto/pub/chess.bbKingMoves" = some 0 by kernel_rfl) (show (Tryd.prog.globals[0]?).map (·.type) = some 82 by kernel_rfl) Tryd.underlying82 Tryd.underlying71 (by kernel_rfl) (by kernel_rfl) (Lib.laidMet.reads h (.tail _ (.tail _ (.tail _ (.tail _ (.tail _ (.head _)))))))
  refine ⟨⟨fun i hi => ?_, fun i hi => ?_, fun i hi => ?_, fun i hi => ?_⟩, ⟨fun i hi => ?_, fun i hi => ?_⟩⟩
  · rw [hd i hi, key _ _ (by decide)]
  · rw [ha i hi, key _ _ (by decide)]
  · rw [hr i hi, key _ _ (by decide)]
  · rw [hf i hi, key _ _ (by decide)]
  · rw [hn i hi, key _ _ (by decide)]; rfl
  · rw [hk i hi, key _ _ (by decide)]; rfl
theorem walk (a0 : Nat → Int) (W : World) (hL : laidMet Tryd.prog Rows.fnMvCheckRow.laid W) :
    Calls Tryd.prog 3 #[intRow 69 a0] W fun e w' => e = .returned (.bool true) ∧ Below W.heap.size W w' :=
  mvCheck_any a0 W (tabs_of_laid hL).1 (tabsP_reads (Lib.laidMet.reads hL (.tail _ (.tail _ (.tail _ (.tail _ (.tail _ (.tail _ (.head _))))))))) (tabs_of_laid hL).2

theorem own : ownKnob Tryd.prog.godebug = none := by kernel_rfl
theorem laidOut : laidOutB Tryd.prog = true := by kernel_rfl
theorem door_met (os : Os) (args : Array Value) : laidMetH Tryd.prog Rows.fnMvCheckRow.laid ((World.doorLaid Tryd.prog 44 os).forCall (fun _ _ => 0) ⟨#[], args, []⟩).memory :=
  laidMetH_of_parts3 (fuel := 8) (laidMet_of_run' 8 (by kernel_rfl) (by kernel_rfl)) (by kernel_rfl) (by kernel_rfl)
theorem laid_plain (W : World) (h : laidMetH Tryd.prog Rows.fnMvCheckRow.laid W) : laidMet Tryd.prog Rows.fnMvCheckRow.laid W := by
  rw [MakeChecks.laidMetH_plain _ _ _ (by kernel_rfl)] at h; exact h
set_option maxRecDepth 100000 in
theorem lifted (os : Os) (started : os.Started) (H : Type) (enc : TypeId × Value → H) :
    ReturnsInHanded {} Tryd.checked os 3 .any (fun w args => (Rows.fnMvCheckSpec.pre enc Tryd.prog Tryd.f3 [] false w args ∧ laidMetH Tryd.prog Rows.fnMvCheckRow.laid w) ∧ sizedMet enc Tryd.prog Tryd.f3 (OpenSpec.ofChange Rows.fnMvCheckSpec) false w args)
      (Rows.fnMvCheckSpec.post enc Tryd.prog Tryd.f3 false true false false) := by
  refine returnsInHanded_of_change_and (C := Tryd.checked) (X := fun w _ => laidMetH Tryd.prog Rows.fnMvCheckRow.laid w) (fun _ _ _ hh h => h.of_heap hh) own started (by kernel_rfl) Tryd.func3
    (ChangeSpec.witness_shaped (enc := enc) (C := Tryd.checked) (os := os) (X := fun w _ => laidMetH Tryd.prog Rows.fnMvCheckRow.laid w) false (World.doorLaid Tryd.prog 44 os) #[intRow 69 fun _ => 0] 8 rfl (World.shaped_of_RefB (by kernel_rfl) (by kernel_rfl)) (by kernel_rfl) (by kernel_rfl) (by kernel_rfl) (door_met os _)) ?_
  intro W base args ds gs before hval0 hW _ _ hL0 _
  have hval : ∀ (j : Nat) t v, Tryd.f3.params[j]? = some t → args[j]? = some v → Value.okWide Tryd.prog W .any base t v := hval0
  have hW' := hW
  obtain ⟨p, q, hA0, hV, rfl, hfz, hnd⟩ := hW
  have hA : DataW.TrodAll enc Tryd.prog W 0 (fun _ => true) true Tryd.f3.params.toList args.toList ds p := hA0
  rw [Tryd.params3] at hA hval
  obtain ⟨v0, vs0, d0, ds0, p0, q0, hargs0, rfl, rfl, h0, r0⟩ := trodAll_cons hA
  obtain ⟨hnil, rfl, rfl⟩ := trodAll_nil r0
  obtain rfl : args = #[v0] := by cases args; simp_all
  obtain ⟨rfl, rfl⟩ := trodVars_none hV
  have hlt := hW'.lt
  have k0 := h0
  obtain ⟨a0, rfl, rfl⟩ := open_pos (hval 0 24 v0 rfl rfl) h0
  clear hA0 hval0
  have hL := laid_plain W hL0
  refine (walk a0 W hL).mono fun e W' ⟨he, hg⟩ => ?_
  subst he
  exact ⟨_, rfl, post_of_below (pa := [] ++ ([])) (pv := []) hW' (fun _ _ _ => (trodAll_cons_mk (shut_bool Tryd.underlying4 _) trodAll_mk0)) (fun sp hsp => (trodAll_cons_mk (trod_keep laidOut (by kernel_rfl) (of_decide_eq_true (by kernel_rfl)) k0 hg (fun _ h => by cases h) (fun _ h => by cases h)) trodAll_mk0)) (fun _ _ => rfl) rfl hg (ok_one (by kernel_rfl) rfl (okWide_bool_mk Tryd.underlying4 _))⟩
theorem over : Rows.fnMvCheckRow.holds Tryd.pinned (OpenSpec.ofChange Rows.fnMvCheckSpec) :=
  OpenClaim.holds_of_wide 3 Tryd.f3 rfl rfl rfl rfl rfl rfl rfl ⟨rfl, rfl, rfl, rfl, rfl⟩ rfl rfl rfl rfl rfl (by kernel_rfl) Tryd.func3 (by kernel_rfl)
    (of_decide_eq_true (by kernel_rfl)) (by unfold Func.isWrapper; first | (rw [if_pos (by decide +kernel)]; kernel_rfl) | (rw [if_neg (by decide +kernel)]; exact ⟨rfl, rfl⟩))
    (fun os started H enc _ => lifted os started H enc)
/-- The statement: the tied card. -/
theorem proved : Rows.FnMvCheckCardSaid :=
  Claim7.holds_tied_plain_at .later [] [.data, .data, .data, .data, .data, .data, .data] true (true, "a05ca5c894b5199b9b8b47981cfd86ca3a67b8d91371175f63d140d68c205413") false
    over (fun _ h => by cases h) (by kernel_rfl) (fun _ h => by cases h) fnMvCheck_row_tie rfl ⟨rfl, rfl⟩ (by kernel_rfl) rfl
    (fun f fn hf hfn => by
      obtain rfl : f = 3 := Option.some.inj ((show Tryd.prog.funcNamed "pub-fianchetto/laws.FnMvCheck" = some 3 by kernel_rfl).symm.trans hf) |>.symm
      obtain rfl : fn = Tryd.f3 := (Option.some.inj (Tryd.func3.symm.trans hfn)).symm
      exact ⟨by kernel_rfl, fun j t ht => by
        rw [Tryd.params3] at ht
        have hm : t ∈ [24] := by simpa using Array.mem_of_getElem? ht
        have hall : ([24].all fun u => !Tryd.prog.wantsStandIn u) = true := by kernel_rfl
        exact (show Tryd.prog.wantsStandIn t = false by simpa using List.all_eq_true.1 hall t hm)⟩)
    (by kernel_rfl)
#print axioms proved
end Go.Proofs.YthdbgjhonnogpaaDoor.MvCheck

/- For every position, kind and square: the law FnBiPossible (the squares to which a piece may go are those of the rules) returns true. The tied card: the tables of lines, jumps and steps, and the list of pieces, hold what the program's text lays in them. -/
import Derived.Test.YthdbgjhonnogpaaDoorBpC
import Derived.Test.YthdbgjhonnogpaaDoorOpenPos
import Derived.Test.YthdbgjhonnogpaaDoorKeep
import Derived.Test.YthdbgjhonnogpaaDoorTie
import Derived.Test.YthdbgjhonnogpaaDoorCards
import Derived.SevenTiedAt
namespace Go.Proofs.YthdbgjhonnogpaaDoor.BiPoss
open Go.ChangeShapes Go.WideShapes Go.ChangeAt Go.RowKit Plain
set_option maxHeartbeats 4000000
set_option linter.unusedVariables false
set_option linter.unusedSimpArgs false

theorem key (l : List Nat) (i : Nat) (hl : (l.all fun n => decide (n < 18446744073709551616)) = true) : (l.map Int.ofNat).getD i 0 = tn (BitVec.ofNat 64 (l.getD i 0)) := by
  unfold tn
  rw [tab_toNatP hl]
  by_cases hi : i < l.length <;> simp [List.getD, hi]
theorem tabs_of_laid {W : World} (h : laidMet Tryd.prog Rows.fnBiPossibleRow.laid W) : Tabs W ∧ KTabs W := by
  have hf := tab_reads (zs := files.map Int.ofNat) (n := 8) (show Tryd.prog.globalNamed "pub-fianchetto/pub/chess.bbFiles" = some 6 by kernel_rfl) (show (Tryd.prog.globals[6]?).map (·.type) = some 97 by kernel_rfl) Tryd.underlying97 Tryd.underlying71 (by kernel_rfl) (by kernel_rfl) (Lib.laidMet.reads h (.head _))
  have hr := tab_reads (zs := ranks.map Int.ofNat) (n := 8) (show Tryd.prog.globalNamed "pub-fianchetto/pub/chess.bbRanks" = some 5 by kernel_rfl) (show (Tryd.prog.globals[5]?).map (·.type) = some 97 by kernel_rfl) Tryd.underlying97 Tryd.underlying71 (by kernel_rfl) (by kernel_rfl) (Lib.laidMet.reads h (.tail _ (.head _)))
  have hd := tab_reads (zs := diagonals.map Int.ofNat) (n := 64) (show Tryd.prog.globalNamed "pub-fianchetto/pub/chess.bbDiagonals" = some 3 by kernel_rfl) (show (Tryd.prog.globals[3]?).map (·.type) = some 82 by kernel_rfl) Tryd.underlying82 Tryd.underlying71 (by kernel_rfl) (by kernel_rfl) (Lib.laidMet.reads h (.tail _ (.tail _ (.head _))))
  have ha := tab_reads (zs := antiDiagonals.map Int.ofNat) (n := 64) (show Tryd.prog.globalNamed "pub-fianchetto/pub/chess.bbAntiDiagonals" = some 4 by kernel_rfl) (show (Tryd.prog.globals[4]?).map (·.type) = some 82 by kernel_rfl) Tryd.underlying82 Tryd.underlying71 (by kernel_rfl) (by kernel_rfl) (Lib.laidMet.reads h (.tail _ (.tail _ (.tail _ (.head _)))))
  have hn := tab_reads (zs := knights.map Int.ofNat) (n := 64) (show Tryd.prog.globalNamed "pub-fianchetto/pub/chess.bbKnightMoves" = some 1 by kernel_rfl) (show (Tryd.prog.globals[1]?).map (·.type) = some 82 by kernel_rfl) Tryd.underlying82 Tryd.underlying71 (by kernel_rfl) (by kernel_rfl) (Lib.laidMet.reads h (.tail _ (.tail _ (.tail _ (.tail _ (.head _))))))
  have hk := tab_reads (zs := kings.map Int.ofNat) (n := 64) (show Tryd.prog.globalNamed "pub-fianchetto/pub/chess.bbKingMoves" = some 0 by kernel_rfl) (show (Tryd.prog.globals[0]?).map (·.type) = some 82 by kernel_rfl) Tryd.underlying82 Tryd.underlying71 (by kernel_rfl) (by kernel_rfl) (Lib.laidMet.reads h (.tail _ (.tail _ (.tail _ (.tail _ (.tail _ (.head _)))))))
  refine ⟨⟨fun i hi => ?_, fun i hi => ?_, fun i hi => ?_, fun i hi => ?_⟩, ⟨fun i hi => ?_, fun i hi => ?_⟩⟩
  · rw [hd i hi, key _ _ (by decide)]
  · rw [ha i hi, key _ _ (by decide)]
  · rw [hr i hi, key _ _ (by decide)]
  · rw [hf i hi, key _ _ (by decide)]
  · rw [hn i hi, key _ _ (by decide)]; rfl
  · rw [hk i hi, key _ _ (by decide)]; rfl
theorem walk (a0 : Nat → Int) (a1 : Int) (w1 : (Lit.int .u8 a1).wf = true) (a2 : Int) (w2 : (Lit.int .u8 a2).wf = true) (W : World) (hL : laidMet Tryd.prog Rows.fnBiPossibleRow.laid W) :
    Calls Tryd.prog 4 #[intRow 69 a0, .int .u8 a1, .int .u8 a2] W fun e w' => e = .returned (.bool true) ∧ Below W.heap.size W w' :=
  biPossible_any a0 a1 a2 (bounds_u8 w1) (bounds_u8 w2) W (tabs_of_laid hL).1 (tabsP_reads (Lib.laidMet.reads hL (.tail _ (.tail _ (.tail _ (.tail _ (.tail _ (.tail _ (.head _))))))))) (tabs_of_laid hL).2

theorem own : ownKnob Tryd.prog.godebug = none := by kernel_rfl
theorem laidOut : laidOutB Tryd.prog = true := by kernel_rfl
theorem door_met (os : Os) (args : Array Value) : laidMetH Tryd.prog Rows.fnBiPossibleRow.laid ((World.doorLaid Tryd.prog 44 os).forCall (fun _ _ => 0) ⟨#[], args, []⟩).memory :=
  laidMetH_of_parts3 (fuel := 8) (laidMet_of_run' 8 (by kernel_rfl) (by kernel_rfl)) (by kernel_rfl) (by kernel_rfl)
theorem laid_plain (W : World) (h : laidMetH Tryd.prog Rows.fnBiPossibleRow.laid W) : laidMet Tryd.prog Rows.fnBiPossibleRow.laid W := by
  rw [MakeChecks.laidMetH_plain _ _ _ (by kernel_rfl)] at h; exact h
set_option maxRecDepth 100000 in
theorem lifted (os : Os) (started : os.Started) (H : Type) (enc : TypeId × Value → H) :
    ReturnsInHanded {} Tryd.checked os 4 .any (fun w args => (Rows.fnBiPossibleSpec.pre enc Tryd.prog Tryd.f4 [] false w args ∧ laidMetH Tryd.prog Rows.fnBiPossibleRow.laid w) ∧ sizedMet enc Tryd.prog Tryd.f4 (OpenSpec.ofChange Rows.fnBiPossibleSpec) false w args)
      (Rows.fnBiPossibleSpec.post enc Tryd.prog Tryd.f4 false true false false) := by
  refine returnsInHanded_of_change_and (C := Tryd.checked) (X := fun w _ => laidMetH Tryd.prog Rows.fnBiPossibleRow.laid w) (fun _ _ _ hh h => h.of_heap hh) own started (by kernel_rfl) Tryd.func4
    (ChangeSpec.witness_shaped (enc := enc) (C := Tryd.checked) (os := os) (X := fun w _ => laidMetH Tryd.prog Rows.fnBiPossibleRow.laid w) false (World.doorLaid Tryd.prog 44 os) #[intRow 69 fun _ => 0, .int .u8 0, .int .u8 0] 8 rfl (World.shaped_of_RefB (by kernel_rfl) (by kernel_rfl)) (by kernel_rfl) (by kernel_rfl) (by kernel_rfl) (door_met os _)) ?_
  intro W base args ds gs before hval0 hW _ _ hL0 _
  have hval : ∀ (j : Nat) t v, Tryd.f4.params[j]? = some t → args[j]? = some v → Value.okWide Tryd.prog W .any base t v := hval0
  have hW' := hW
  obtain ⟨p, q, hA0, hV, rfl, hfz, hnd⟩ := hW
  have hA : DataW.TrodAll enc Tryd.prog W 0 (fun _ => true) true Tryd.f4.params.toList args.toList ds p := hA0
  rw [Tryd.params4] at hA hval
  obtain ⟨v0, vs0, d0, ds0, p0, q0, hargs0, rfl, rfl, h0, r0⟩ := trodAll_cons hA
  obtain ⟨v1, vs1, d1, ds1, p1, q1, hargs1, rfl, rfl, h1, r1⟩ := trodAll_cons r0
  obtain ⟨v2, vs2, d2, ds2, p2, q2, hargs2, rfl, rfl, h2, r2⟩ := trodAll_cons r1
  obtain ⟨hnil, rfl, rfl⟩ := trodAll_nil r2
  obtain rfl : args = #[v0, v1, v2] := by cases args; simp_all
  obtain ⟨rfl, rfl⟩ := trodVars_none hV
  have hlt := hW'.lt
  have k0 := h0
  obtain ⟨a0, rfl, rfl⟩ := open_pos (hval 0 24 v0 rfl rfl) h0
  have k1 := h1
  obtain ⟨a1, rfl, rfl, rfl, w1⟩ := open_int Tryd.underlying5 (hval 1 5 v1 rfl rfl) h1
  have k2 := h2
  obtain ⟨a2, rfl, rfl, rfl, w2⟩ := open_int Tryd.underlying5 (hval 2 5 v2 rfl rfl) h2
  clear hA0 hval0
  have hL := laid_plain W hL0
  refine (walk a0 a1 w1 a2 w2 W hL).mono fun e W' ⟨he, hg⟩ => ?_
  subst he
  exact ⟨_, rfl, post_of_below (pa := [] ++ ([] ++ ([] ++ ([])))) (pv := []) hW' (fun _ _ _ => (trodAll_cons_mk (shut_bool Tryd.underlying4 _) trodAll_mk0)) (fun sp hsp => (trodAll_cons_mk (trod_keep laidOut (by kernel_rfl) (of_decide_eq_true (by kernel_rfl)) k0 hg (fun _ h => by cases h) (fun _ h => by cases h)) (trodAll_cons_mk (trod_keep laidOut (by kernel_rfl) (of_decide_eq_true (by kernel_rfl)) k1 hg (fun _ h => by cases h) (fun _ h => by cases h)) (trodAll_cons_mk (trod_keep laidOut (by kernel_rfl) (of_decide_eq_true (by kernel_rfl)) k2 hg (fun _ h => by cases h) (fun _ h => by cases h)) trodAll_mk0)))) (fun _ _ => rfl) rfl hg (ok_one (by kernel_rfl) rfl (okWide_bool_mk Tryd.underlying4 _))⟩
theorem over : Rows.fnBiPossibleRow.holds Tryd.pinned (OpenSpec.ofChange Rows.fnBiPossibleSpec) :=
  OpenClaim.holds_of_wide 4 Tryd.f4 rfl rfl rfl rfl rfl rfl rfl ⟨rfl, rfl, rfl, rfl, rfl⟩ rfl rfl rfl rfl rfl (by kernel_rfl) Tryd.func4 (by kernel_rfl)
    (of_decide_eq_true (by kernel_rfl)) (by unfold Func.isWrapper; first | (rw [if_pos (by decide +kernel)]; kernel_rfl) | (rw [if_neg (by decide +kernel)]; exact ⟨rfl, rfl⟩))
    (fun os started H enc _ => lifted os started H enc)
/-- The statement: the tied card. -/
theorem proved : Rows.FnBiPossibleCardSaid :=
  Claim7.holds_tied_plain_at .later [] [.data, .data, .data, .data, .data, .data, .data] true (true, "a05ca5c894b5199b9b8b47981cfd86ca3a67b8d91371175f63d140d68c205413") false
    over (fun _ h => by cases h) (by kernel_rfl) (fun _ h => by cases h) fnBiPossible_row_tie rfl ⟨rfl, rfl⟩ (by kernel_rfl) rfl
    (fun f fn hf hfn => by
      obtain rfl : f = 4 := Option.some.inj ((show Tryd.prog.funcNamed "pub-fianchetto/laws.FnBiPossible" = some 4 by kernel_rfl).symm.trans hf) |>.symm
      obtain rfl : fn = Tryd.f4 := (Option.some.inj (Tryd.func4.symm.trans hfn)).symm
      exact ⟨by kernel_rfl, fun j t ht => by
        rw [Tryd.params4] at ht
        have hm : t ∈ [24, 5, 5] := by simpa using Array.mem_of_getElem? ht
        have hall : ([24, 5, 5].all fun u => !Tryd.prog.wantsStandIn u) = true := by kernel_rfl
        exact (show Tryd.prog.wantsStandIn t = false by simpa using List.all_eq_true.1 hall t hm)⟩)
    (by kernel_rfl)
#print axioms proved
end Go.Proofs.YthdbgjhonnogpaaDoor.BiPoss

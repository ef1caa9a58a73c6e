/- For every position: the law FnMvNone (no move) returns true. The tied card: the tables of lines, jumps and steps, and the list of pieces, hold what the program's text lays in them. -/
import Derived.Test.YthdbgjhonnogpaaGreatDoorNoneLaw
import Derived.Test.YthdbgjhonnogpaaGreatDoorOpenPos
import Derived.Test.YthdbgjhonnogpaaGreatDoorKeep
import Derived.Test.YthdbgjhonnogpaaGreatDoorTie
import Derived.Test.YthdbgjhonnogpaaGreatDoorCards
import Derived.SevenTiedAt
import Derived.Lay
namespace Go.Proofs.YthdbgjhonnogpaaGreatDoor.MvNone
open Go.ChangeShapes Go.WideShapes Go.ChangeAt Go.RowKit Plain
set_option maxHeartbeats 4000000
set_option linter.unusedVariables false
set_option linter.unusedSimpArgs false

theorem tab_toNatT {l : List Nat} (h : l.all (fun n => decide (n < 18446744073709551616)) = true) (i : Nat) : (BitVec.ofNat 64 (l.getD i 0)).toNat = l.getD i 0 := by
  rw [BitVec.toNat_ofNat]
  apply Nat.mod_eq_of_lt
  by_cases hi : i < l.length
  · have := List.all_eq_true.1 h l[i] (List.getElem_mem hi)
    simpa [List.getD, hi] using this
  · simp [List.getD, hi]
theorem key (l : List Nat) (i : Nat) (hl : (l.all fun n => decide (n < 18446744073709551616)) = true) : (l.map Int.ofNat).getD i 0 = tn (BitVec.ofNat 64 (l.getD i 0)) := by
  unfold tn
  rw [tab_toNatT hl]
  by_cases hi : i < l.length <;> simp [List.getD, hi]
theorem tabs_of_laid {W : World} (h : laidMet Tryz.prog Rows.fnMvNoneRow.laid W) : Tabs W ∧ KTabs W := by
  have hf := tab_reads (zs := files.map Int.ofNat) (n := 8) (show Tryz.prog.globalNamed "pub-fianchetto/pub/chess.bbFiles" = some 7 by kernel_rfl) (show (Tryz.prog.globals[7]?).map (·.type) = some 147 by kernel_rfl) Tryz.underlying147 Tryz.underlying96 (by kernel_rfl) (by kernel_rfl) (Lib.laidMet.reads h (.tail _ (.head _)))
  have hr := tab_reads (zs := ranks.map Int.ofNat) (n := 8) (show Tryz.prog.globalNamed "pub-fianchetto/pub/chess.bbRanks" = some 6 by kernel_rfl) (show (Tryz.prog.globals[6]?).map (·.type) = some 147 by kernel_rfl) Tryz.underlying147 Tryz.underlying96 (by kernel_rfl) (by kernel_rfl) (Lib.laidMet.reads h (.tail _ (.tail _ (.head _))))
  have hd := tab_reads (zs := diagonals.map Int.ofNat) (n := 64) (show Tryz.prog.globalNamed "pub-fianchetto/pub/chess.bbDiagonals" = some 4 by kernel_rfl) (show (Tryz.prog.globals[4]?).map (·.type) = some 138 by kernel_rfl) Tryz.underlying138 Tryz.underlying96 (by kernel_rfl) (by kernel_rfl) (Lib.laidMet.reads h (.tail _ (.tail _ (.tail _ (.head _)))))
  have ha := tab_reads (zs := antiDiagonals.map Int.ofNat) (n := 64) (show Tryz.prog.globalNamed "pub-fianchetto/pub/chess.bbAntiDiagonals" = some 5 by kernel_rfl) (show (Tryz.prog.globals[5]?).map (·.type) = some 138 by kernel_rfl) Tryz.underlying138 Tryz.underlying96 (by kernel_rfl) (by kernel_rfl) (Lib.laidMet.reads h (.tail _ (.tail _ (.tail _ (.tail _ (.head _))))))
  have hn := tab_reads (zs := knights.map Int.ofNat) (n := 64) (show Tryz.prog.globalNamed "pub-fianchetto/pub/chess.bbKnightMoves" = some 1 by kernel_rfl) (show (Tryz.prog.globals[1]?).map (·.type) = some 138 by kernel_rfl) Tryz.underlying138 Tryz.underlying96 (by kernel_rfl) (by kernel_rfl) (Lib.laidMet.reads h (.tail _ (.tail _ (.tail _ (.tail _ (.tail _ (.head _)))))))
  have hk := tab_reads (zs := kings.map Int.ofNat) (n := 64) (show Tryz.prog.globalNamed "pub-fianchetto/pub/chess.bbKingMoves" = some 2 by kernel_rfl) (show (Tryz.prog.globals[2]?).map (·.type) = some 138 by kernel_rfl) Tryz.underlying138 Tryz.underlying96 (by kernel_rfl) (by kernel_rfl) (Lib.laidMet.reads h (.tail _ (.tail _ (.tail _ (.tail _ (.tail _ (.tail _ (.head _))))))))
  refine ⟨⟨fun i hi => ?_, fun i hi => ?_, fun i hi => ?_, fun i hi => ?_⟩, ⟨fun i hi => ?_, fun i hi => ?_⟩⟩
  · rw [hd i hi, key _ _ (by decide)]
  · rw [ha i hi, key _ _ (by decide)]
  · rw [hr i hi, key _ _ (by decide)]
  · rw [hf i hi, key _ _ (by decide)]
  · rw [hn i hi, key _ _ (by decide)]; rfl
  · rw [hk i hi, key _ _ (by decide)]; rfl
theorem walk (a0 : Nat → Int) (W : World) (hL : laidMet Tryz.prog Rows.fnMvNoneRow.laid W) :
    Calls Tryz.prog 4 #[intRow 69 a0] W fun e w' => e = .returned (.bool true) ∧ Below W.heap.size W w' :=
  mvNone_any a0 W (tabs_of_laid hL).1 (tabsP_reads (Lib.laidMet.reads hL (.tail _ (.tail _ (.tail _ (.tail _ (.tail _ (.tail _ (.tail _ (.head _)))))))))) (tabs_of_laid hL).2

theorem own : ownKnob Tryz.prog.godebug = none := by kernel_rfl
theorem laidOut : laidOutB Tryz.prog = true := by kernel_rfl
theorem laid_plain (W : World) (h : laidMetH Tryz.prog Rows.fnMvNoneRow.laid W) : laidMet Tryz.prog Rows.fnMvNoneRow.laid W := by
  rw [MakeChecks.laidMetH_plain _ _ _ (by kernel_rfl)] at h; exact h
set_option maxRecDepth 100000 in
theorem lifted (os : Os) (started : os.Started) (H : Type) (enc : TypeId × Value → H) :
    ReturnsInHanded {} Tryz.checked os 4 .any (fun w args => (Rows.fnMvNoneSpec.pre enc Tryz.prog Tryz.f4 [] false w args ∧ laidMetH Tryz.prog Rows.fnMvNoneRow.laid w) ∧ sizedMet enc Tryz.prog Tryz.f4 (OpenSpec.ofChange Rows.fnMvNoneSpec) false w args)
      (Rows.fnMvNoneSpec.post enc Tryz.prog Tryz.f4 false true false false) := by
  refine returnsInHanded_of_change_and (C := Tryz.checked) (X := fun w _ => laidMetH Tryz.prog Rows.fnMvNoneRow.laid w) (fun _ _ _ hh h => h.of_heap hh) own started (by kernel_rfl) Tryz.func4
    (ChangeSpec.witness_shaped (enc := enc) (C := Tryz.checked) (os := os) (X := fun w _ => laidMetH Tryz.prog Rows.fnMvNoneRow.laid w) false (World.laidAll Tryz.prog os Rows.fnMvNoneRow.laid) #[intRow 69 fun _ => 0] 8 (World.laidAll_os _ _ _)
      (World.shaped_of_ZipB (by kernel_rfl) (by kernel_rfl)) (by kernel_rfl) (by kernel_rfl) (by kernel_rfl)
      (by rw [MakeChecks.laidMetH_plain _ _ _ (by kernel_rfl)]; exact laidMet_laidAll _ (by kernel_rfl) (by kernel_rfl))) ?_
  intro W base args ds gs before hval0 hW _ _ hL0 _
  have hval : ∀ (j : Nat) t v, Tryz.f4.params[j]? = some t → args[j]? = some v → Value.okWide Tryz.prog W .any base t v := hval0
  have hW' := hW
  obtain ⟨p, q, hA0, hV, rfl, hfz, hnd⟩ := hW
  have hA : DataW.TrodAll enc Tryz.prog W 0 (fun _ => true) true Tryz.f4.params.toList args.toList ds p := hA0
  rw [Tryz.params4] at hA hval
  obtain ⟨v0, vs0, d0, ds0, p0, q0, hargs0, rfl, rfl, h0, r0⟩ := trodAll_cons hA
  obtain ⟨hnil, rfl, rfl⟩ := trodAll_nil r0
  obtain rfl : args = #[v0] := by cases args; simp_all
  obtain ⟨rfl, rfl⟩ := trodVars_none hV
  have hlt := hW'.lt
  have k0 := h0
  obtain ⟨a0, rfl, rfl⟩ := open_pos (hval 0 24 v0 rfl rfl) h0
  clear hA0 hval0
  have hL := laid_plain W hL0
  refine (walk a0 W hL).mono fun e W' ⟨he, hg⟩ => ?_
  subst he
  exact ⟨_, rfl, post_of_below (pa := [] ++ ([])) (pv := []) hW' (fun _ _ _ => (trodAll_cons_mk (shut_bool Tryz.underlying4 _) trodAll_mk0)) (fun sp hsp => (trodAll_cons_mk (trod_keep laidOut (by kernel_rfl) (of_decide_eq_true (by kernel_rfl)) k0 hg (fun _ h => by cases h) (fun _ h => by cases h)) trodAll_mk0)) (fun _ _ => rfl) rfl hg (ok_one (by kernel_rfl) rfl (okWide_bool_mk Tryz.underlying4 _))⟩
theorem over : Rows.fnMvNoneRow.holds Tryz.pinned (OpenSpec.ofChange Rows.fnMvNoneSpec) :=
  OpenClaim.holds_of_wide 4 Tryz.f4 rfl rfl rfl rfl rfl rfl rfl ⟨rfl, rfl, rfl, rfl, rfl⟩ rfl rfl rfl rfl rfl (by kernel_rfl) Tryz.func4 (by kernel_rfl)
    (of_decide_eq_true (by kernel_rfl)) (by unfold Func.isWrapper; first | (rw [if_pos (by decide +kernel)]; kernel_rfl) | (rw [if_neg (by decide +kernel)]; exact ⟨rfl, rfl⟩))
    (fun os started H enc _ => lifted os started H enc)
/-- The statement: the tied card. -/
theorem proved : Rows.FnMvNoneCardSaid :=
  Claim7.holds_tied_plain_at .later [] [.data, .data, .data, .data, .data, .data, .data, .data, .pinned, .pinned] true (true, "f5bebabc2b1592f1c977bc0556b61a6769b74bbee6b3296189035725b2e23271") false
    over (fun _ h => by cases h) (by kernel_rfl) (fun _ h => by cases h) fnMvNone_row_tie rfl ⟨rfl, rfl⟩ (by kernel_rfl) rfl
    (fun f fn hf hfn => by
      obtain rfl : f = 4 := Option.some.inj ((show Tryz.prog.funcNamed "pub-fianchetto/laws.FnMvNone" = some 4 by kernel_rfl).symm.trans hf) |>.symm
      obtain rfl : fn = Tryz.f4 := (Option.some.inj (Tryz.func4.symm.trans hfn)).symm
      exact ⟨by kernel_rfl, fun j t ht => by
        rw [Tryz.params4] at ht
        have hm : t ∈ [24] := by simpa using Array.mem_of_getElem? ht
        have hall : ([24].all fun u => !Tryz.prog.wantsStandIn u) = true := by kernel_rfl
        exact (show Tryz.prog.wantsStandIn t = false by simpa using List.all_eq_true.1 hall t hm)⟩)
    (by kernel_rfl)
#print axioms proved
end Go.Proofs.YthdbgjhonnogpaaGreatDoor.MvNone

/- For every board: the law FnBdFlip returns true. The tied card: allPieces holds what the program's text lays in it. -/
import Derived.Test.YtgafddcmpdbdbaaDoorFlipUd
import Derived.Test.YtgafddcmpdbdbaaDoorFlipLr
import Derived.Test.YtgafddcmpdbdbaaDoorOpenArr
import Derived.Test.YtgafddcmpdbdbaaDoorTie
import Derived.Test.YtgafddcmpdbdbaaDoorCards
import Derived.SevenTiedAt
import Derived.Deep.RegionHeld3
import Derived.Deep.MidRow
namespace Go.Proofs.YtgafddcmpdbdbaaDoor.Flipped
open Go.ChangeShapes Go.WideShapes Go.ChangeAt Go.RowKit Plain
set_option maxHeartbeats 4000000
set_option linter.unusedVariables false
set_option linter.unusedSimpArgs false

theorem walk_wrong (bd : Nat → Int) (hR : ¬ Right bd) (lr : Bool) (W : World) :
    Calls Tryd.prog 5 #[intRow 64 bd, .bool lr] W fun e w' => e = .returned (.bool true) ∧ Below W.heap.size W w' := by
  have h1 := rowIs_new W 23 64 (fun i => .int .i64 (bd i))
  have hb1 : Below W.heap.size W (W.alloc (.cells (rowArr 64 fun i => .int .i64 (bd i)) 23)) := (Below.refl _ _).alloc (Nat.le_refl _) _
  have hb1 := Lib.hid hb1
  unfold intRow
  go_enter Tryd.func5, Tryd.ntmps5
  generalize hW1 : W.alloc (.cells (rowArr 64 fun i => .int .i64 (bd i)) 23) = w1 at *
  go_wp2_with (first
    | (go_at_call 12; refine (bdRight_false bd hR w1).mono ?_; rintro e w2 ⟨rfl, hb2⟩)
    | (refine wpList_load_row rfl 23 _ rfl W.heap.size rfl _ _ (0, 0) _ (rowIs_block h1) Tryd.underlying23 rfl (by rw [info64, rowArr_size]) ?_))
  all_goals
    go_ret
    exact ⟨rfl, hb1.out.trans (hb2.mono hb1.out.size)⟩
theorem walk (a0 : Nat → Int) (a1 : Bool) (W : World) (hL : laidMet Tryd.prog Rows.fnBdFlipRow.laid W) :
    Calls Tryd.prog 5 #[intRow 64 a0, .bool a1] W fun e w' => e = .returned (.bool true) ∧ Below W.heap.size W w' := by
  have hT := tabsP_reads (Lib.laidMet.reads hL (.head _))
  by_cases h : Right a0
  · cases a1
    · exact walk_false a0 h W hT
    · exact walk_true a0 h W hT
  · exact walk_wrong a0 h a1 W

theorem own : ownKnob Tryd.prog.godebug = none := by kernel_rfl
theorem door_met (os : Os) (args : Array Value) : laidMetH Tryd.prog Rows.fnBdFlipRow.laid ((World.doorLaid Tryd.prog 59 os).forCall (fun _ _ => 0) ⟨#[], args, []⟩).memory :=
  laidMetH_of_parts3 (fuel := 8) (laidMet_of_run' 8 (by kernel_rfl) (by kernel_rfl)) (by kernel_rfl) (by kernel_rfl)
theorem laid_plain (W : World) (h : laidMetH Tryd.prog Rows.fnBdFlipRow.laid W) : laidMet Tryd.prog Rows.fnBdFlipRow.laid W := by
  rw [MakeChecks.laidMetH_plain _ _ _ (by kernel_rfl)] at h; exact h
set_option maxRecDepth 100000 in
theorem lifted (os : Os) (started : os.Started) (H : Type) (enc : TypeId × Value → H) :
    ReturnsInHanded {} Tryd.checked os 5 .any (fun w args => (Rows.fnBdFlipSpec.pre enc Tryd.prog Tryd.f5 [] false w args ∧ laidMetH Tryd.prog Rows.fnBdFlipRow.laid w) ∧ sizedMet enc Tryd.prog Tryd.f5 (OpenSpec.ofChange Rows.fnBdFlipSpec) false w args)
      (Rows.fnBdFlipSpec.post enc Tryd.prog Tryd.f5 false true false false) := by
  refine returnsInHanded_of_change_and (C := Tryd.checked) (X := fun w _ => laidMetH Tryd.prog Rows.fnBdFlipRow.laid w) (fun _ _ _ hh h => h.of_heap hh) own started (by kernel_rfl) Tryd.func5
    (ChangeSpec.witness_shaped (enc := enc) (C := Tryd.checked) (os := os) (X := fun w _ => laidMetH Tryd.prog Rows.fnBdFlipRow.laid w) false (World.doorLaid Tryd.prog 59 os) #[intRow 64 fun _ => 0, .bool false] 8 rfl (World.shaped_of_RefB (by kernel_rfl) (by kernel_rfl)) (by kernel_rfl) (by kernel_rfl) (by kernel_rfl) (door_met os _)) ?_
  intro W base args ds gs before hval0 hW _ _ hL0 _
  have hval : ∀ (j : Nat) t v, Tryd.f5.params[j]? = some t → args[j]? = some v → Value.okWide Tryd.prog W .any base t v := hval0
  have hW' := hW
  obtain ⟨p, q, hA0, hV, rfl, hfz, hnd⟩ := hW
  have hA : DataW.TrodAll enc Tryd.prog W 0 (fun _ => true) true Tryd.f5.params.toList args.toList ds p := hA0
  rw [Tryd.params5] at hA hval
  obtain ⟨v0, vs0, d0, ds0, p0, q0, hargs0, rfl, rfl, h0, r0⟩ := trodAll_cons hA
  obtain ⟨v1, vs1, d1, ds1, p1, q1, hargs1, rfl, rfl, h1, r1⟩ := trodAll_cons r0
  obtain ⟨hnil, rfl, rfl⟩ := trodAll_nil r1
  obtain rfl : args = #[v0, v1] := by cases args; simp_all
  obtain ⟨rfl, rfl⟩ := trodVars_none hV
  obtain ⟨a0, rfl, rfl, rfl, w0⟩ := open_ints64 (hval 0 23 v0 rfl rfl) h0
  obtain ⟨a1, rfl, rfl, rfl⟩ := open_bool Tryd.underlying4 (hval 1 4 v1 rfl rfl) h1
  clear hA0 hval0
  simp only [List.append_nil] at hW'
  have hL := laid_plain W hL0
  refine (walk a0 a1 W hL).mono fun e W' ⟨he, hg⟩ => ?_
  subst he
  exact ⟨_, rfl, post_of_below (pa := []) (pv := []) hW' (fun _ _ _ => (trodAll_cons_mk (shut_bool Tryd.underlying4 _) trodAll_mk0)) (fun sp _ => (trodAll_cons_mk (shut_ints64 _ w0) (trodAll_cons_mk (shut_bool Tryd.underlying4 _) trodAll_mk0))) (fun _ _ => rfl) rfl hg (ok_one (by kernel_rfl) rfl (okWide_bool_mk Tryd.underlying4 _))⟩
theorem over : Rows.fnBdFlipRow.holds Tryd.pinned (OpenSpec.ofChange Rows.fnBdFlipSpec) :=
  OpenClaim.holds_of_wide 5 Tryd.f5 rfl rfl rfl rfl rfl rfl rfl ⟨rfl, rfl, rfl, rfl, rfl⟩ rfl rfl rfl rfl rfl (by kernel_rfl) Tryd.func5 (by kernel_rfl)
    (of_decide_eq_true (by kernel_rfl)) (by unfold Func.isWrapper; first | (rw [if_pos (by decide +kernel)]; kernel_rfl) | (rw [if_neg (by decide +kernel)]; exact ⟨rfl, rfl⟩))
    (fun os started H enc _ => lifted os started H enc)
/-- The statement: the tied card. -/
theorem proved : Rows.FnBdFlipCardSaid :=
  Claim7.holds_tied_plain_at .later [] [.data] true (true, "8ae8d1781d25110699f8743dba1a54f417feb517f986ea1aab62d37d6a201afe") false
    over (fun _ h => by cases h) (by kernel_rfl) (fun _ h => by cases h) fnBdFlip_row_tie rfl ⟨rfl, rfl⟩ (by kernel_rfl) rfl
    (fun f fn hf hfn => by
      obtain rfl : f = 5 := Option.some.inj ((show Tryd.prog.funcNamed "pub-fianchetto/laws.FnBdFlip" = some 5 by kernel_rfl).symm.trans hf) |>.symm
      obtain rfl : fn = Tryd.f5 := (Option.some.inj (Tryd.func5.symm.trans hfn)).symm
      exact ⟨by kernel_rfl, fun j t ht => by
        rw [Tryd.params5] at ht
        have hm : t ∈ [23, 4] := by simpa using Array.mem_of_getElem? ht
        have hall : ([23, 4].all fun u => !Tryd.prog.wantsStandIn u) = true := by kernel_rfl
        exact (show Tryd.prog.wantsStandIn t = false by simpa using List.all_eq_true.1 hall t hm)⟩)
    (by kernel_rfl)
#print axioms proved
end Go.Proofs.YtgafddcmpdbdbaaDoor.Flipped

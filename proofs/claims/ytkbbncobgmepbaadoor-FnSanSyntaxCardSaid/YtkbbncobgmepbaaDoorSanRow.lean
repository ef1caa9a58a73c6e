/- For every text: the law FnSanSyntax (a text is valid standard algebraic notation exactly if it has its form; its parts and its text without signs are told) returns true. The tied card: the program's empty parts are empty. -/
import Derived.Test.YtkbbncobgmepbaaDoorSanLaw
import Derived.Test.YtkbbncobgmepbaaDoorKeep
import Derived.Test.YtkbbncobgmepbaaDoorTie
import Derived.Test.YtkbbncobgmepbaaDoorCards
import Derived.SevenTiedAt
import Derived.ChangeMaps5
import Derived.LaidMore
import Derived.Lib.LaidU8
import Derived.Stop.Joined
import Derived.Deep.Fields
namespace Go.Proofs.YtkbbncobgmepbaaDoor.San
open Go.ChangeShapes Go.WideShapes Go.ChangeAt Go.RowKit Go.PlainAid Go.Deep
set_option maxHeartbeats 4000000
set_option linter.unusedVariables false
set_option linter.unusedSimpArgs false

theorem cellsS : (Tryd.prog).cellsOf 9 = 1 := by kernel_rfl
theorem one_drop {cs : List Value} {i : Nat} {v : Value} (h : (cs.drop i).take 1 = [v]) : cs[i]? = some v := by
  have h0 := congrArg (·[0]?) h
  simpa using h0
theorem tabE_of_laid {W : World} (h : laidMet Tryd.prog Rows.fnSanSyntaxRow.laid W) : TabE W := by
  obtain ⟨g, t, cs, fuel, p, hg, ht, hvar, hd⟩ := Lib.laidMet.reads h (.head _)
  obtain rfl : g = 0 := Option.some.inj (hg.symm.trans (show Tryd.prog.globalNamed "pub-fianchetto/pub/chess.emptyComponents" = some 0 by kernel_rfl))
  obtain rfl : t = 69 := Option.some.inj (ht.symm.trans (by kernel_rfl))
  have hb : ∃ ty fr, W.heap[0]? = some (.cells cs ty fr) := by
    unfold World.var? at hvar
    rw [hg] at hvar
    simp only [Option.bind_some] at hvar
    split at hvar
    · rename_i cs' ty fr heq
      obtain rfl := Option.some.inj hvar
      exact ⟨ty, fr, heq⟩
    · cases hvar
  obtain ⟨ty, fr, hb⟩ := hb
  obtain ⟨xs, n, _, hx, hlen, hxl, hf⟩ := DataW.trod_struct Tryd.underlying69 hd
  refine ⟨?_, fun i hi => ?_⟩
  · rcases Nat.lt_or_ge 0 W.heap.size with h | h
    · exact h
    · rw [Array.getElem?_eq_none h] at hb; cases hb
  · have hxs : xs.map (·.1) = [.lit (.string []), .lit (.string []), .lit (.string []), .lit (.string []), .lit (.string []), .lit (.string []), .lit (.string []), .lit (.string [])] := by
      simp only [Prod.mk.injEq] at hx
      have h1 := hx.1
      unfold Rows.laid_pub_fianchetto_pub_chess_emptyComponents at h1
      simpa using h1.symm
    have key : ∀ f : Field, f.offset = i → f.type = 9 → DataW.trod (fun _ => ()) Tryd.prog W 0 (fun _ => true) false n f.type ((cs.toList.drop f.offset).take (Tryd.prog.cellsOf f.type)) = xs[i]? → W.cell? ⟨0, i, none⟩ = some (.string ⟨#[]⟩) := fun f ho hty h => by
      rw [ho, hty, cellsS] at h
      have hi8 : i < xs.length := by
        have := congrArg List.length hxs
        simp at this; omega
      have hm : (xs.map (·.1))[i]? = some (xs[i]'hi8).1 := by rw [List.getElem?_map, List.getElem?_eq_getElem hi8]; rfl
      rw [List.getElem?_eq_getElem hi8] at h
      obtain ⟨s, hs, hy, _⟩ := DataW.trod_string Tryd.underlying9 h
      rw [hxs] at hm
      have hlit : (xs[i]'hi8).1 = .lit (.string []) := by
        have : i = 0 ∨ i = 1 ∨ i = 2 ∨ i = 3 ∨ i = 4 ∨ i = 5 ∨ i = 6 ∨ i = 7 := by omega
        rcases this with rfl | rfl | rfl | rfl | rfl | rfl | rfl | rfl <;> exact (Option.some.inj hm).symm
      rw [hy] at hlit
      have hnil : s.data.toList = [] := by simpa using hlit
      have hse : s = ⟨#[]⟩ := by
        apply ByteArray.ext
        exact Array.toList_inj.1 (by rw [hnil])
      have hc := one_drop hs
      rw [hse] at hc
      unfold World.cell?
      rw [hb]
      simpa using hc
    have : i = 0 ∨ i = 1 ∨ i = 2 ∨ i = 3 ∨ i = 4 ∨ i = 5 ∨ i = 6 ∨ i = 7 := by omega
    rcases this with rfl | rfl | rfl | rfl | rfl | rfl | rfl | rfl
    · exact key _ rfl rfl (hf 0 _ rfl)
    · exact key _ rfl rfl (hf 1 _ rfl)
    · exact key _ rfl rfl (hf 2 _ rfl)
    · exact key _ rfl rfl (hf 3 _ rfl)
    · exact key _ rfl rfl (hf 4 _ rfl)
    · exact key _ rfl rfl (hf 5 _ rfl)
    · exact key _ rfl rfl (hf 6 _ rfl)
    · exact key _ rfl rfl (hf 7 _ rfl)
theorem walk (a0 : ByteArray) (W : World) (hL : laidMet Tryd.prog Rows.fnSanSyntaxRow.laid W) :
    Calls Tryd.prog 3 #[.string a0] W fun e w' => e = .returned (.bool true) ∧ Below W.heap.size W w' := by
  obtain ⟨L, rfl⟩ : ∃ L, a0 = tx L := ⟨a0.data.toList, rfl⟩
  have hE := tabE_of_laid hL
  by_cases h1 : L.length ≤ 2147483647
  · by_cases h2 : L.length ≤ 100
    · by_cases h3 : ∃ l, SanR L (some l)
      · obtain ⟨l, hR⟩ := h3
        have h8 : l.length = 8 := by
          rcases hR with ⟨a, b, c, d, p, _, rfl⟩ | ⟨_, _, rfl⟩ | ⟨_, _, _, rfl⟩ <;> rfl
        exact san_yes L h2 l hR h8 W hE
      · exact san_no L h2 h3 W hE
    · exact san_100 L h1 (by omega) W
  · exact san_long L (by omega) W

theorem own : ownKnob Tryd.prog.godebug = none := by kernel_rfl
theorem laidOut : laidOutB Tryd.prog = true := by kernel_rfl
theorem door_met (os : Os) (args : Array Value) : laidMetH Tryd.prog Rows.fnSanSyntaxRow.laid ((World.doorLaid Tryd.prog 39 os).forCall (fun _ _ => 0) ⟨#[], args, []⟩).memory :=
  laidMetH_of_parts3 (fuel := 8) (laidMet_of_run' 8 (by kernel_rfl) (by kernel_rfl)) (by kernel_rfl) (by kernel_rfl)
theorem laid_plain (W : World) (h : laidMetH Tryd.prog Rows.fnSanSyntaxRow.laid W) : laidMet Tryd.prog Rows.fnSanSyntaxRow.laid W := by
  rw [MakeChecks.laidMetH_plain _ _ _ (by kernel_rfl)] at h; exact h
set_option maxRecDepth 100000 in
theorem lifted (os : Os) (started : os.Started) (H : Type) (enc : TypeId × Value → H) :
    ReturnsInHanded {} Tryd.checked os 3 .any (fun w args => (Rows.fnSanSyntaxSpec.pre enc Tryd.prog Tryd.f3 [] false w args ∧ laidMetH Tryd.prog Rows.fnSanSyntaxRow.laid w) ∧ sizedMet enc Tryd.prog Tryd.f3 (OpenSpec.ofChange Rows.fnSanSyntaxSpec) false w args)
      (Rows.fnSanSyntaxSpec.post enc Tryd.prog Tryd.f3 false true false false) := by
  refine returnsInHanded_of_change_and (C := Tryd.checked) (X := fun w _ => laidMetH Tryd.prog Rows.fnSanSyntaxRow.laid w) (fun _ _ _ hh h => h.of_heap hh) own started (by kernel_rfl) Tryd.func3
    (ChangeSpec.witness_shaped (enc := enc) (C := Tryd.checked) (os := os) (X := fun w _ => laidMetH Tryd.prog Rows.fnSanSyntaxRow.laid w) false (World.doorLaid Tryd.prog 39 os) #[.string ⟨#[]⟩] 8 rfl (World.shaped_of_RefB (by kernel_rfl) (by kernel_rfl)) (by kernel_rfl) (by kernel_rfl) (by kernel_rfl) (door_met os _)) ?_
  intro W base args ds gs before hval0 hW _ _ hL0 _
  have hval : ∀ (j : Nat) t v, Tryd.f3.params[j]? = some t → args[j]? = some v → Value.okWide Tryd.prog W .any base t v := hval0
  have hW' := hW
  obtain ⟨p, q, hA0, hV, rfl, hfz, hnd⟩ := hW
  have hA : DataW.TrodAll enc Tryd.prog W 0 (fun _ => true) true Tryd.f3.params.toList args.toList ds p := hA0
  rw [Tryd.params3] at hA hval
  obtain ⟨v0, vs0, d0, ds0, p0, q0, hargs0, rfl, rfl, h0, r0⟩ := trodAll_cons hA
  obtain ⟨hnil, rfl, rfl⟩ := trodAll_nil r0
  obtain rfl : args = #[v0] := by cases args; simp_all
  obtain ⟨rfl, rfl⟩ := trodVars_none hV
  have hlt := hW'.lt
  have k0 := h0
  obtain ⟨a0, rfl, rfl, rfl, w0⟩ := Go.ChangeMaps.open_string Tryd.underlying9 (hval 0 9 v0 rfl rfl) h0
  clear hA0 hval0
  have hL := laid_plain W hL0
  refine (walk a0 W hL).mono fun e W' ⟨he, hg⟩ => ?_
  subst he
  exact ⟨_, rfl, post_of_below (pa := [] ++ ([])) (pv := []) hW' (fun _ _ _ => (trodAll_cons_mk (shut_bool Tryd.underlying4 _) trodAll_mk0)) (fun sp hsp => (trodAll_cons_mk (trod_keep laidOut (by kernel_rfl) (of_decide_eq_true (by kernel_rfl)) k0 hg (fun _ h => by cases h) (fun _ h => by cases h)) trodAll_mk0)) (fun _ _ => rfl) rfl hg (ok_one (by kernel_rfl) rfl (okWide_bool_mk Tryd.underlying4 _))⟩
theorem over : Rows.fnSanSyntaxRow.holds Tryd.pinned (OpenSpec.ofChange Rows.fnSanSyntaxSpec) :=
  OpenClaim.holds_of_wide 3 Tryd.f3 rfl rfl rfl rfl rfl rfl rfl ⟨rfl, rfl, rfl, rfl, rfl⟩ rfl rfl rfl rfl rfl (by kernel_rfl) Tryd.func3 (by kernel_rfl)
    (of_decide_eq_true (by kernel_rfl)) (by unfold Func.isWrapper; first | (rw [if_pos (by decide +kernel)]; kernel_rfl) | (rw [if_neg (by decide +kernel)]; exact ⟨rfl, rfl⟩))
    (fun os started H enc _ => lifted os started H enc)
/-- The statement: the tied card. -/
theorem proved : Rows.FnSanSyntaxCardSaid :=
  Claim7.holds_tied_plain_at .later [] [.data] true (true, "869ed70e0871a02185ec953360436c50acca520346e91e8a2418005467b3dc89") false
    over (fun _ h => by cases h) (by kernel_rfl) (fun _ h => by cases h) fnSanSyntax_row_tie rfl ⟨rfl, rfl⟩ (by kernel_rfl) rfl
    (fun f fn hf hfn => by
      obtain rfl : f = 3 := Option.some.inj ((show Tryd.prog.funcNamed "pub-fianchetto/laws.FnSanSyntax" = some 3 by kernel_rfl).symm.trans hf) |>.symm
      obtain rfl : fn = Tryd.f3 := (Option.some.inj (Tryd.func3.symm.trans hfn)).symm
      exact ⟨by kernel_rfl, fun j t ht => by
        rw [Tryd.params3] at ht
        have hm : t ∈ [9] := by simpa using Array.mem_of_getElem? ht
        have hall : ([9].all fun u => !Tryd.prog.wantsStandIn u) = true := by kernel_rfl
        exact (show Tryd.prog.wantsStandIn t = false by simpa using List.all_eq_true.1 hall t hm)⟩)
    (by kernel_rfl)
#print axioms proved
end Go.Proofs.YtkbbncobgmepbaaDoor.San

/- For every byte and either colour: the law FnNmPieces (pieces are kinds and colours) returns true. The tied card: allPieces, whitePiecesToFEN and blackPiecesToFEN hold what the program's text lays in them. -/
import Derived.Test.YtofjlnillbphkaaDoorPiece
import Derived.Test.YtofjlnillbphkaaDoorTie
import Derived.Test.YtofjlnillbphkaaDoorCards
import Derived.SevenTiedAt
namespace Go.Proofs.YtofjlnillbphkaaDoor.Pieces
open Go.ChangeShapes Go.WideShapes Go.ChangeAt Go.RowKit
set_option maxHeartbeats 1000000
set_option linter.unusedVariables false
set_option linter.unusedSimpArgs false

def wFen : List Int := [0, 75, 81, 82, 66, 78, 80]
def bFen : List Int := [0, 107, 113, 114, 98, 110, 112]
structure TabsF (w : World) : Prop where
  white : ∀ i, i < 7 → w.cell? ⟨5, i, none⟩ = some (.int .u8 (wFen.getD i 0))
  black : ∀ i, i < 7 → w.cell? ⟨6, i, none⟩ = some (.int .u8 (bFen.getD i 0))
theorem TabsF.below {w w' : World} (h : TabsF w) (hb : Below w.heap.size w w') : TabsF w' :=
  ⟨fun i hi => cell_below hb (h.white i hi), fun i hi => cell_below hb (h.black i hi)⟩
def fenChar (p : Int) : Int := if p ≤ 6 then wFen.getD p.toNat 0 else bFen.getD (p - 6).toNat 0
theorem small_any (a : Int) (h0 : -128 ≤ a) (h1 : a ≤ 127) (w : World) :
    Calls Tryd.prog 23 #[.int .i64 a] w fun e w' => e = .returned (.int .i8 a) ∧ w = w' := by
  go_enter Tryd.func23, Tryd.ntmps23
  go_wp2
  go_ret
  exact ⟨rfl, rfl⟩
theorem fenChar_any (p : Int) (h0 : 1 ≤ p) (h1 : p ≤ 12) (w : World) (hF : TabsF w) :
    Calls Tryd.prog 38 #[.int .i8 p] w fun e w' => e = .returned (.int .u8 (fenChar p)) ∧ w = w' := by
  have hw := hF.white (ptype p).toNat (by unfold ptype; split <;> omega)
  have hb := hF.black (ptype p).toNat (by unfold ptype; split <;> omega)
  clear hF
  have : p = 1 ∨ p = 2 ∨ p = 3 ∨ p = 4 ∨ p = 5 ∨ p = 6 ∨ p = 7 ∨ p = 8 ∨ p = 9 ∨ p = 10 ∨ p = 11 ∨ p = 12 := by omega
  rcases this with rfl | rfl | rfl | rfl | rfl | rfl | rfl | rfl | rfl | rfl | rfl | rfl
  all_goals
    simp only [ptype, Int.reduceLE, if_true, if_false, Int.reduceSub, Int.reduceToNat] at hw hb
    go_enter Tryd.func38, Tryd.ntmps38
    go_wp2_with (first | (go_at_call 27; refine (color_any _ (by omega) (by omega) _).mono ?_; rintro e w' ⟨rfl, rfl⟩; simp only [pcolor, Int.reduceLE, Int.reduceEq, if_true, if_false]) | (go_at_call 25; refine (type_any _ (by omega) (by omega) _).mono ?_; rintro e w' ⟨rfl, rfl⟩; simp only [ptype, Int.reduceLE, if_true, if_false, Int.reduceSub]))
    go_ret
    exact ⟨rfl, rfl⟩
theorem doorFen_any (p : Int) (h0 : 1 ≤ p) (h1 : p ≤ 12) (w : World) (hF : TabsF w) :
    Calls Tryd.prog 29 #[.int .i8 p] w fun e w' => e = .returned (.int .u8 (fenChar p)) ∧ w = w' := by
  have H := fenChar_any p h0 h1 w hF
  clear hF
  go_enter Tryd.func29, Tryd.ntmps29
  go_wp2_with (go_at_call 38; refine H.mono ?_; rintro e w' ⟨rfl, rfl⟩)
  go_ret
  exact ⟨rfl, rfl⟩
theorem fenChar_range (p : Int) (h0 : 1 ≤ p) (h1 : p ≤ 12) : 0 ≤ fenChar p ∧ fenChar p ≤ 255 := by
  have : p = 1 ∨ p = 2 ∨ p = 3 ∨ p = 4 ∨ p = 5 ∨ p = 6 ∨ p = 7 ∨ p = 8 ∨ p = 9 ∨ p = 10 ∨ p = 11 ∨ p = 12 := by omega
  rcases this with rfl | rfl | rfl | rfl | rfl | rfl | rfl | rfl | rfl | rfl | rfl | rfl <;> decide

theorem clo_PieceOf (p0 p1 : Addr) (w : World) :
    CallsD Tryd.prog 21 #[.pointer (some p0), .pointer (some p1)] .returning w fun e u' w' => e = .returned (.tuple #[]) ∧ u' = .returning ∧ w' = w := by
  refine callsD_of_wpS Tryd.func21 rfl fun c₀ cs hu => ?_
  apply wpS_seq
  apply wpS_region
  simp [wpOpsS, go_sem, recoverD, hu, Tryd.ntmps21, Exit.thenS]
  refine wpS_cond (t := false) (by simp [Act.eval, Array.replicate]) ?_
  simp only [Bool.false_eq_true, if_false]
  refine wpS_of_wp (wp_skip ?_)
  cases c₀
  simp_all [bodyPostS, results, Tryd.results21]

theorem clo_KindOf (p0 p1 : Addr) (w : World) :
    CallsD Tryd.prog 24 #[.pointer (some p0), .pointer (some p1)] .returning w fun e u' w' => e = .returned (.tuple #[]) ∧ u' = .returning ∧ w' = w := by
  refine callsD_of_wpS Tryd.func24 rfl fun c₀ cs hu => ?_
  apply wpS_seq
  apply wpS_region
  simp [wpOpsS, go_sem, recoverD, hu, Tryd.ntmps24, Exit.thenS]
  refine wpS_cond (t := false) (by simp [Act.eval, Array.replicate]) ?_
  simp only [Bool.false_eq_true, if_false]
  refine wpS_of_wp (wp_skip ?_)
  cases c₀
  simp_all [bodyPostS, results, Tryd.results24]

theorem clo_ColorOf (p0 p1 : Addr) (w : World) :
    CallsD Tryd.prog 26 #[.pointer (some p0), .pointer (some p1)] .returning w fun e u' w' => e = .returned (.tuple #[]) ∧ u' = .returning ∧ w' = w := by
  refine callsD_of_wpS Tryd.func26 rfl fun c₀ cs hu => ?_
  apply wpS_seq
  apply wpS_region
  simp [wpOpsS, go_sem, recoverD, hu, Tryd.ntmps26, Exit.thenS]
  refine wpS_cond (t := false) (by simp [Act.eval, Array.replicate]) ?_
  simp only [Bool.false_eq_true, if_false]
  refine wpS_of_wp (wp_skip ?_)
  cases c₀
  simp_all [bodyPostS, results, Tryd.results26]

theorem clo_FenLetter (p0 p1 : Addr) (w : World) :
    CallsD Tryd.prog 28 #[.pointer (some p0), .pointer (some p1)] .returning w fun e u' w' => e = .returned (.tuple #[]) ∧ u' = .returning ∧ w' = w := by
  refine callsD_of_wpS Tryd.func28 rfl fun c₀ cs hu => ?_
  apply wpS_seq
  apply wpS_region
  simp [wpOpsS, go_sem, recoverD, hu, Tryd.ntmps28, Exit.thenS]
  refine wpS_cond (t := false) (by simp [Act.eval, Array.replicate]) ?_
  simp only [Bool.false_eq_true, if_false]
  refine wpS_of_wp (wp_skip ?_)
  cases c₀
  simp_all [bodyPostS, results, Tryd.results28]

theorem two_below (w : World) (a b : Array Value) (t u : TypeId) : Below w.heap.size w ((w.alloc (.cells a t)).alloc (.cells b u)) := ((Below.refl _ _).alloc (Nat.le_refl _) _).alloc (by simp) _
theorem pieceOf_any (k c : Int) (hk : 1 ≤ k ∧ k ≤ 6) (hc : c = 1 ∨ c = 2) (w : World) (hT : TabsP w) :
    Calls Tryd.prog 8 #[.int .i64 k, .int .i64 c] w fun e w' => e = .returned (.tuple #[.int .i64 (k + 6 * (c - 1)), .bool true]) ∧ Below w.heap.size w w' := by
  have hmf := mkf Tryd.prog
  have hT2 := hT.below (two_below w #[.int .i64 0] #[.bool false] 3 4)
  clear hT
  go_enter_defers Tryd.func8, Tryd.ntmps8
  go_wp2_with (first | (go_at_call 23; refine (small_any _ (by omega) (by omega) _).mono ?_; rintro e w' ⟨rfl, rfl⟩) | (go_at_call 22; refine (newPiece_any _ _ hk hc _ hT2).mono ?_; rintro e w' ⟨rfl, rfl⟩))
  refine leaves_cons (f := 21) (args := #[.pointer (some ⟨w.heap.size, 0, none⟩), .pointer (some ⟨w.heap.size + 1, 0, none⟩)]) (by simp) (by simp [go_sem]) ?_
  refine (clo_PieceOf _ _ _).mono ?_
  rintro e u' w'' ⟨rfl, rfl, rfl⟩
  simp [Leaves, settle, results, Tryd.results8, go_sem]
  exact two_below _ _ _ _ _
theorem kindOf1_any (p : Int) (h0 : 1 ≤ p) (h1 : p ≤ 12) (w : World) :
    Calls Tryd.prog 9 #[.int .i64 p] w fun e w' => e = .returned (.tuple #[.int .i64 (ptype p), .bool true]) ∧ Below w.heap.size w w' := by
  have hmf := mkf Tryd.prog
  have hr : -128 ≤ ptype p ∧ ptype p ≤ 127 := by unfold ptype; split <;> omega
  go_enter_defers Tryd.func9, Tryd.ntmps9
  go_wp2_with (first | (go_at_call 23; refine (small_any _ (by omega) (by omega) _).mono ?_; rintro e w' ⟨rfl, rfl⟩) | (go_at_call 25; refine (type_any _ (by omega) (by omega) _).mono ?_; rintro e w' ⟨rfl, rfl⟩))
  refine leaves_cons (f := 24) (args := #[.pointer (some ⟨w.heap.size, 0, none⟩), .pointer (some ⟨w.heap.size + 1, 0, none⟩)]) (by simp) (by simp [go_sem]) ?_
  refine (clo_KindOf _ _ _).mono ?_
  rintro e u' w'' ⟨rfl, rfl, rfl⟩
  simp [Leaves, settle, results, Tryd.results9, go_sem]
  exact two_below _ _ _ _ _
theorem colorOf1_any (p : Int) (h0 : 1 ≤ p) (h1 : p ≤ 12) (w : World) :
    Calls Tryd.prog 10 #[.int .i64 p] w fun e w' => e = .returned (.tuple #[.int .i64 (pcolor p), .bool true]) ∧ Below w.heap.size w w' := by
  have hmf := mkf Tryd.prog
  have hr : -128 ≤ pcolor p ∧ pcolor p ≤ 127 := by unfold pcolor; split <;> (try split) <;> omega
  go_enter_defers Tryd.func10, Tryd.ntmps10
  go_wp2_with (first | (go_at_call 23; refine (small_any _ (by omega) (by omega) _).mono ?_; rintro e w' ⟨rfl, rfl⟩) | (go_at_call 27; refine (color_any _ (by omega) (by omega) _).mono ?_; rintro e w' ⟨rfl, rfl⟩))
  refine leaves_cons (f := 26) (args := #[.pointer (some ⟨w.heap.size, 0, none⟩), .pointer (some ⟨w.heap.size + 1, 0, none⟩)]) (by simp) (by simp [go_sem]) ?_
  refine (clo_ColorOf _ _ _).mono ?_
  rintro e u' w'' ⟨rfl, rfl, rfl⟩
  simp [Leaves, settle, results, Tryd.results10, go_sem]
  exact two_below _ _ _ _ _
theorem fenLetter_any (p : Int) (h0 : 1 ≤ p) (h1 : p ≤ 12) (w : World) (hF : TabsF w) :
    Calls Tryd.prog 11 #[.int .i64 p] w fun e w' => e = .returned (.tuple #[.int .i64 (fenChar p), .bool true]) ∧ Below w.heap.size w w' := by
  have hmf := mkf Tryd.prog
  have hr := fenChar_range p h0 h1
  have hF2 := hF.below (two_below w #[.int .i64 0] #[.bool false] 3 4)
  clear hF
  go_enter_defers Tryd.func11, Tryd.ntmps11
  go_wp2_with (first | (go_at_call 23; refine (small_any _ (by omega) (by omega) _).mono ?_; rintro e w' ⟨rfl, rfl⟩) | (go_at_call 29; refine (doorFen_any _ h0 h1 _ hF2).mono ?_; rintro e w' ⟨rfl, rfl⟩))
  refine leaves_cons (f := 28) (args := #[.pointer (some ⟨w.heap.size, 0, none⟩), .pointer (some ⟨w.heap.size + 1, 0, none⟩)]) (by simp) (by simp [go_sem]) ?_
  refine (clo_FenLetter _ _ _).mono ?_
  rintro e u' w'' ⟨rfl, rfl, rfl⟩
  simp [Leaves, settle, results, Tryd.results11, go_sem]
  exact two_below _ _ _ _ _

theorem walkK (k : Int) (hk : k = 0 ∨ k = 1 ∨ k = 2 ∨ k = 3 ∨ k = 4 ∨ k = 5) (n : Int) (h0 : 0 ≤ n) (hn : n % 6 = k) (b : Bool) (w : World) (hT : TabsP w) (hF : TabsF w) :
    Calls Tryd.prog 4 #[.int .u8 n, .bool b] w fun e w' => e = .returned (.bool true) ∧ Below w.heap.size w w' := by
  have hm : n.tmod 6 = k := by rw [Int.tmod_eq_emod_of_nonneg h0]; exact hn
  rcases hk with rfl | rfl | rfl | rfl | rfl | rfl
  all_goals
    cases b
    all_goals
      go_enter Tryd.func4, Tryd.ntmps4
      go_wp2_with (first
        | (go_at_call 8; refine (pieceOf_any _ _ (by omega) (by omega) _ hT).mono ?_; rintro e w1 ⟨rfl, hb1⟩; have hF1 := hF.below hb1)
        | (go_at_call 9; refine (kindOf1_any _ (by omega) (by omega) _).mono ?_; rintro e w2 ⟨rfl, hb2⟩; have hF2 := hF1.below hb2; have hb3 := hb1.trans (hb2.mono hb1.size); simp only [ptype, Int.reduceLE, Int.reduceAdd, Int.reduceMul, Int.reduceSub, if_true, if_false])
        | (go_at_call 10; refine (colorOf1_any _ (by omega) (by omega) _).mono ?_; rintro e w4 ⟨rfl, hb4⟩; have hF4 := hF2.below hb4; have hb5 := hb3.trans (hb4.mono hb3.size); simp only [pcolor, Int.reduceLE, Int.reduceEq, Int.reduceAdd, Int.reduceMul, Int.reduceSub, if_true, if_false])
        | (go_at_call 11; refine (fenLetter_any _ (by omega) (by omega) _ hF4).mono ?_; rintro e w6 ⟨rfl, hb6⟩; have hb7 := hb5.trans (hb6.mono hb5.size); simp only [fenChar, wFen, bFen, Int.reduceLE, Int.reduceAdd, Int.reduceMul, Int.reduceSub, Int.reduceToNat, if_true, if_false, List.getD_cons_succ, List.getD_cons_zero]))
      go_ret
      exact ⟨congrArg (fun b => Ending.returned (Value.bool b)) (by kernel_rfl), hb7⟩

theorem walk (a0 : Int) (w0 : (Lit.int .u8 a0).wf = true) (a1 : Bool) (W : World) (hL : laidMet Tryd.prog Rows.fnNmPiecesRow.laid W) :
    Calls Tryd.prog 4 #[.int .u8 a0, .bool a1] W fun e w' => e = .returned (.bool true) ∧ Below W.heap.size W w' := by
  have h0 := bounds_u8 w0
  have hP : TabsP W := tabsP_reads (Lib.laidMet.reads hL (.tail _ (.tail _ (.head _))))
  have hf := tab_reads (zs := wFen) (n := 7) (show Tryd.prog.globalNamed "pub-fianchetto/pub/chess.whitePiecesToFEN" = some 5 by kernel_rfl) (show (Tryd.prog.globals[5]?).map (·.type) = some 70 by kernel_rfl) Tryd.underlying70 Tryd.underlying5 (by kernel_rfl) (by kernel_rfl) (Lib.laidMet.reads hL (.head _))
  have hg := tab_reads (zs := bFen) (n := 7) (show Tryd.prog.globalNamed "pub-fianchetto/pub/chess.blackPiecesToFEN" = some 6 by kernel_rfl) (show (Tryd.prog.globals[6]?).map (·.type) = some 70 by kernel_rfl) Tryd.underlying70 Tryd.underlying5 (by kernel_rfl) (by kernel_rfl) (Lib.laidMet.reads hL (.tail _ (.head _)))
  exact walkK (a0 % 6) (by omega) a0 h0.1 rfl a1 W hP ⟨hf, hg⟩

theorem own : ownKnob Tryd.prog.godebug = none := by kernel_rfl
theorem door_met (os : Os) (args : Array Value) : laidMetH Tryd.prog Rows.fnNmPiecesRow.laid ((World.doorLaid Tryd.prog 44 os).forCall (fun _ _ => 0) ⟨#[], args, []⟩).memory :=
  laidMetH_of_parts3 (fuel := 8) (laidMet_of_run' 8 (by kernel_rfl) (by kernel_rfl)) (by kernel_rfl) (by kernel_rfl)
theorem laid_plain (W : World) (h : laidMetH Tryd.prog Rows.fnNmPiecesRow.laid W) : laidMet Tryd.prog Rows.fnNmPiecesRow.laid W := by
  rw [MakeChecks.laidMetH_plain _ _ _ (by kernel_rfl)] at h; exact h
set_option maxRecDepth 100000 in
theorem lifted (os : Os) (started : os.Started) (H : Type) (enc : TypeId × Value → H) :
    ReturnsInHanded {} Tryd.checked os 4 .any (fun w args => (Rows.fnNmPiecesSpec.pre enc Tryd.prog Tryd.f4 [] false w args ∧ laidMetH Tryd.prog Rows.fnNmPiecesRow.laid w) ∧ sizedMet enc Tryd.prog Tryd.f4 (OpenSpec.ofChange Rows.fnNmPiecesSpec) false w args)
      (Rows.fnNmPiecesSpec.post enc Tryd.prog Tryd.f4 false true false false) := by
  refine returnsInHanded_of_change_and (C := Tryd.checked) (X := fun w _ => laidMetH Tryd.prog Rows.fnNmPiecesRow.laid w) (fun _ _ _ hh h => h.of_heap hh) own started (by kernel_rfl) Tryd.func4
    (ChangeSpec.witness_shaped (enc := enc) (C := Tryd.checked) (os := os) (X := fun w _ => laidMetH Tryd.prog Rows.fnNmPiecesRow.laid w) false (World.doorLaid Tryd.prog 44 os) #[.int .u8 0, .bool false] 8 rfl (World.shaped_of_RefB (by kernel_rfl) (by kernel_rfl)) (by kernel_rfl) (by kernel_rfl) (by kernel_rfl) (door_met os _)) ?_
  intro W base args ds gs before hval0 hW _ _ hL0 _
  have hval : ∀ (j : Nat) t v, Tryd.f4.params[j]? = some t → args[j]? = some v → Value.okWide Tryd.prog W .any base t v := hval0
  have hW' := hW
  obtain ⟨p, q, hA0, hV, rfl, hfz, hnd⟩ := hW
  have hA : DataW.TrodAll enc Tryd.prog W 0 (fun _ => true) true Tryd.f4.params.toList args.toList ds p := hA0
  rw [Tryd.params4] at hA hval
  obtain ⟨v0, vs0, d0, ds0, p0, q0, hargs0, rfl, rfl, h0, r0⟩ := trodAll_cons hA
  obtain ⟨v1, vs1, d1, ds1, p1, q1, hargs1, rfl, rfl, h1, r1⟩ := trodAll_cons r0
  obtain ⟨hnil, rfl, rfl⟩ := trodAll_nil r1
  obtain rfl : args = #[v0, v1] := by cases args; simp_all
  obtain ⟨rfl, rfl⟩ := trodVars_none hV
  obtain ⟨a0, rfl, rfl, rfl, w0⟩ := open_int Tryd.underlying5 (hval 0 5 v0 rfl rfl) h0
  obtain ⟨a1, rfl, rfl, rfl⟩ := open_bool Tryd.underlying4 (hval 1 4 v1 rfl rfl) h1
  clear hA0 hval0
  simp only [List.append_nil] at hW'
  have hL := laid_plain W hL0
  refine (walk a0 w0 a1 W hL).mono fun e W' ⟨he, hg⟩ => ?_
  subst he
  exact ⟨_, rfl, post_of_below (pa := []) (pv := []) hW' (fun _ _ _ => (trodAll_cons_mk (shut_bool Tryd.underlying4 _) trodAll_mk0)) (fun sp _ => (trodAll_cons_mk (shut_int Tryd.underlying5 w0) (trodAll_cons_mk (shut_bool Tryd.underlying4 _) trodAll_mk0))) (fun _ _ => rfl) rfl hg (ok_one (by kernel_rfl) rfl (okWide_bool_mk Tryd.underlying4 _))⟩
theorem over : Rows.fnNmPiecesRow.holds Tryd.pinned (OpenSpec.ofChange Rows.fnNmPiecesSpec) :=
  OpenClaim.holds_of_wide 4 Tryd.f4 rfl rfl rfl rfl rfl rfl rfl ⟨rfl, rfl, rfl, rfl, rfl⟩ rfl rfl rfl rfl rfl (by kernel_rfl) Tryd.func4 (by kernel_rfl)
    (of_decide_eq_true (by kernel_rfl)) (by unfold Func.isWrapper; first | (rw [if_pos (by decide +kernel)]; kernel_rfl) | (rw [if_neg (by decide +kernel)]; exact ⟨rfl, rfl⟩))
    (fun os started H enc _ => lifted os started H enc)
/-- The statement: the tied card. -/
theorem proved : Rows.FnNmPiecesCardSaid :=
  Claim7.holds_tied_plain_at .later [] [.data, .data, .data] true (true, "6205842dd6a82506210576e1fd303833ea1a4e1dfac0a05a5a4ecf861df6f56f") false
    over (fun _ h => by cases h) (by kernel_rfl) (fun _ h => by cases h) fnNmPieces_row_tie rfl ⟨rfl, rfl⟩ (by kernel_rfl) rfl
    (fun f fn hf hfn => by
      obtain rfl : f = 4 := Option.some.inj ((show Tryd.prog.funcNamed "pub-fianchetto/laws.FnNmPieces" = some 4 by kernel_rfl).symm.trans hf) |>.symm
      obtain rfl : fn = Tryd.f4 := (Option.some.inj (Tryd.func4.symm.trans hfn)).symm
      exact ⟨by kernel_rfl, fun j t ht => by
        rw [Tryd.params4] at ht
        have hm : t ∈ [5, 4] := by simpa using Array.mem_of_getElem? ht
        have hall : ([5, 4].all fun u => !Tryd.prog.wantsStandIn u) = true := by kernel_rfl
        exact (show Tryd.prog.wantsStandIn t = false by simpa using List.all_eq_true.1 hall t hm)⟩)
    (by kernel_rfl)
#print axioms proved
end Go.Proofs.YtofjlnillbphkaaDoor.Pieces

/- For every byte: the law FnNmSquares (the names of squares) returns true. No condition beyond the row's own. -/
import Derived.Test.YtofjlnillbphkaaNamed
import Derived.Test.YtofjlnillbphkaaPost
namespace Go.Proofs.Ytofjlnillbphkaa.Squares
open Go.ChangeShapes Go.WideShapes Go.ChangeAt Go.RowKit Go.PlainAid
set_option maxHeartbeats 1000000
set_option linter.unusedVariables false
set_option linter.unusedSimpArgs false
theorem two_below (w : World) (a b : Array Value) (t u : TypeId) : Below w.heap.size w ((w.alloc (.cells a t)).alloc (.cells b u)) := ((Below.refl _ _).alloc (Nat.le_refl _) _).alloc (by simp) _
theorem small_any (a : Int) (h0 : -128 ≤ a) (h1 : a ≤ 127) (w : World) :
    Calls Try.prog 11 #[.int .i64 a] w fun e w' => e = .returned (.int .i8 a) ∧ w = w' := by
  go_enter Try.func11, Try.ntmps11
  go_wp2
  go_ret
  exact ⟨rfl, rfl⟩
theorem clo_SquareName (p0 p1 : Addr) (w : World) :
    CallsD Try.prog 13 #[.pointer (some p0), .pointer (some p1)] .returning w fun e u' w' => e = .returned (.tuple #[]) ∧ u' = .returning ∧ w' = w := by
  refine callsD_of_wpS Try.func13 rfl fun c₀ cs hu => ?_
  apply wpS_seq
  apply wpS_region
  simp [wpOpsS, go_sem, recoverD, hu, Try.ntmps13, Exit.thenS]
  refine wpS_cond (t := false) (by simp [Act.eval, Array.replicate]) ?_
  simp only [Bool.false_eq_true, if_false]
  refine wpS_of_wp (wp_skip ?_)
  cases c₀
  simp_all [bodyPostS, results, Try.results13]

theorem clo_SquareAt (p0 p1 : Addr) (w : World) :
    CallsD Try.prog 16 #[.pointer (some p0), .pointer (some p1)] .returning w fun e u' w' => e = .returned (.tuple #[]) ∧ u' = .returning ∧ w' = w := by
  refine callsD_of_wpS Try.func16 rfl fun c₀ cs hu => ?_
  apply wpS_seq
  apply wpS_region
  simp [wpOpsS, go_sem, recoverD, hu, Try.ntmps16, Exit.thenS]
  refine wpS_cond (t := false) (by simp [Act.eval, Array.replicate]) ?_
  simp only [Bool.false_eq_true, if_false]
  refine wpS_of_wp (wp_skip ?_)
  cases c₀
  simp_all [bodyPostS, results, Try.results16]

theorem clo_SquareColor (p0 p1 : Addr) (w : World) :
    CallsD Try.prog 18 #[.pointer (some p0), .pointer (some p1)] .returning w fun e u' w' => e = .returned (.tuple #[]) ∧ u' = .returning ∧ w' = w := by
  refine callsD_of_wpS Try.func18 rfl fun c₀ cs hu => ?_
  apply wpS_seq
  apply wpS_region
  simp [wpOpsS, go_sem, recoverD, hu, Try.ntmps18, Exit.thenS]
  refine wpS_cond (t := false) (by simp [Act.eval, Array.replicate]) ?_
  simp only [Bool.false_eq_true, if_false]
  refine wpS_of_wp (wp_skip ?_)
  cases c₀
  simp_all [bodyPostS, results, Try.results18]

theorem squareName_any (s : Int) (h0 : 0 ≤ s) (h1 : s < 64) (w : World) :
    Calls Try.prog 6 #[.int .i64 s] w fun e w' => e = .returned (.tuple #[.string (sqName s), .bool true]) ∧ Below w.heap.size w w' := by
  have hmf := mkf Try.prog
  go_enter_defers Try.func6, Try.ntmps6
  go_wp2_with (first | (go_at_call 14; refine (square_any _ h0 h1 _).mono ?_; rintro e w' ⟨rfl, rfl⟩) | (go_at_call 15; refine (sqStr_any _ h0 h1 _).mono ?_; rintro e w' ⟨rfl, rfl⟩))
  refine leaves_cons (f := 13) (args := #[.pointer (some ⟨w.heap.size, 0, none⟩), .pointer (some ⟨w.heap.size + 1, 0, none⟩)]) (by simp) (by simp [go_sem]) ?_
  refine (clo_SquareName _ _ _).mono ?_
  rintro e u' w'' ⟨rfl, rfl, rfl⟩
  simp [Leaves, settle, results, Try.results6, go_sem]
  exact two_below _ _ _ _ _
theorem squareAt_any (f r : Int) (h0 : 0 ≤ f) (h1 : f < 8) (h2 : 0 ≤ r) (h3 : r < 8) (w : World) :
    Calls Try.prog 7 #[.int .i64 f, .int .i64 r] w fun e w' => e = .returned (.tuple #[.int .i64 (8 * r + f), .bool true]) ∧ Below w.heap.size w w' := by
  have hmf := mkf Try.prog
  go_enter_defers Try.func7, Try.ntmps7
  go_wp2_with (first | (go_at_call 11; refine (small_any _ (by omega) (by omega) _).mono ?_; rintro e w' ⟨rfl, rfl⟩) | (go_at_call 17; refine (newSquare_any _ _ h0 h1 h2 h3 _).mono ?_; rintro e w' ⟨rfl, rfl⟩))
  refine leaves_cons (f := 16) (args := #[.pointer (some ⟨w.heap.size, 0, none⟩), .pointer (some ⟨w.heap.size + 1, 0, none⟩)]) (by simp) (by simp [go_sem]) ?_
  refine (clo_SquareAt _ _ _).mono ?_
  rintro e u' w'' ⟨rfl, rfl, rfl⟩
  simp [Leaves, settle, results, Try.results7, go_sem]
  exact two_below _ _ _ _ _
theorem doorColor_any (s c : Int) (h0 : 0 ≤ s) (h1 : s < 64) (hc : (if (s % 8 + s / 8) % 2 = 0 then (2 : Int) else 1) = c) (w : World) :
    Calls Try.prog 19 #[.int .i8 s] w fun e w' => e = .returned (.int .i8 c) ∧ w = w' := by
  have H := color_sq_any s h0 h1 w
  rw [hc] at H
  have H := Lib.hid H
  clear hc
  go_enter Try.func19, Try.ntmps19
  go_wp2_with (go_at_call 25; refine H.out.mono ?_; rintro e w' ⟨rfl, rfl⟩)
  go_ret
  exact ⟨rfl, rfl⟩
theorem squareColor_any (s c : Int) (h0 : 0 ≤ s) (h1 : s < 64) (hc : (if (s % 8 + s / 8) % 2 = 0 then (2 : Int) else 1) = c) (hc1 : 1 ≤ c) (hc2 : c ≤ 2) (w : World) :
    Calls Try.prog 8 #[.int .i64 s] w fun e w' => e = .returned (.tuple #[.int .i64 c, .bool true]) ∧ Below w.heap.size w w' := by
  have hmf := mkf Try.prog
  have H : ∀ w, Calls Try.prog 19 #[.int .i8 s] w fun e w' => e = .returned (.int .i8 c) ∧ w = w' := by
    intro w; exact doorColor_any s c h0 h1 hc w
  have H := Lib.hid H
  clear hc
  go_enter_defers Try.func8, Try.ntmps8
  go_wp2_with (first | (go_at_call 14; refine (square_any _ h0 h1 _).mono ?_; rintro e w' ⟨rfl, rfl⟩) | (go_at_call 19; refine (H.out _).mono ?_; rintro e w' ⟨rfl, rfl⟩))
  refine leaves_cons (f := 18) (args := #[.pointer (some ⟨w.heap.size, 0, none⟩), .pointer (some ⟨w.heap.size + 1, 0, none⟩)]) (by simp) (by simp [go_sem]) ?_
  refine (clo_SquareColor _ _ _).mono ?_
  rintro e u' w'' ⟨rfl, rfl, rfl⟩
  simp [Leaves, settle, results, Try.results8, go_sem]
  exact two_below _ _ _ _ _
theorem name_bt (s : Int) (h0 : 0 ≤ s) (h1 : s < 64) : (sqName s).size = 2 ∧ bt (sqName s) 0 = 97 + s % 8 ∧ bt (sqName s) 1 = 49 + s / 8 := by
  refine ⟨rfl, ?_, ?_⟩
  · unfold bt
    rw [dif_pos (show 0 < (sqName s).size from Nat.zero_lt_two)]
    show ((UInt8.ofNat (97 + (s % 8).toNat)).toNat : Int) = _
    rw [UInt8.toNat_ofNat']
    omega
  · unfold bt
    rw [dif_pos (show 1 < (sqName s).size from Nat.one_lt_two)]
    show ((UInt8.ofNat (49 + (s / 8).toNat)).toNat : Int) = _
    rw [UInt8.toNat_ofNat']
    omega
theorem named_any (s : Int) (h0 : 0 ≤ s) (h1 : s < 64) (w : World) :
    Calls Try.prog 9 #[.string (sqName s)] w fun e w' => e = .returned (.int .i64 s) ∧ Below w.heap.size w w' := by
  obtain ⟨g0, g1, g2⟩ := name_bt s h0 h1
  have H : ∀ w, Calls Try.prog 26 #[.string (sqName s)] w fun e w' => e = .returned (.int .i8 s) ∧ ∃ n, w' = w.drewN n := by
    intro w
    have := strToSquare_any (sqName s) g0 (by omega) (by omega) (by omega) (by omega) w
    rw [g1, g2] at this
    have e : 8 * (49 + s / 8 - 49) + (97 + s % 8 - 97) = s := by omega
    rw [e] at this
    exact this
  have H := Lib.hid H
  clear g0 g1 g2
  generalize sqName s = t at *
  have H2 : ∀ w, Calls Try.prog 20 #[.string t] w fun e w' => e = .returned (.int .i8 s) ∧ ∃ n, w' = w.drewN n := by
    intro w
    go_enter Try.func20, Try.ntmps20
    go_wp2_with (go_at_call 26; refine (H.out _).mono ?_; rintro e w' ⟨rfl, n, rfl⟩)
    go_ret
    exact ⟨rfl, n, rfl⟩
  have H2 := Lib.hid H2
  go_enter Try.func9, Try.ntmps9
  go_wp2_with (go_at_call 20; refine (H2.out _).mono ?_; rintro e w' ⟨rfl, n, rfl⟩)
  go_ret
  exact ⟨rfl, ⟨rfl, rfl, rfl, Nat.le_refl _, fun _ _ => rfl⟩⟩

theorem conv2 (w : World) (c0 c1 : Int) : (convert 26 9 (.slice (some ⟨w.heap.size, 0, none⟩) 2 2)).run Try.prog (w.alloc (.cells #[.int .u8 c0, .int .u8 c1] 5)) = .ok (.string ⟨#[UInt8.ofNat c0.toNat, UInt8.ofNat c1.toNat]⟩) (w.alloc (.cells #[.int .u8 c0, .int .u8 c1] 5)) := by
  rw [run_convert_bytes_string _ _ _ _ _ _ _ Try.underlying26 Try.underlying5 Try.underlying9]
  rw [run_bytesToString (w.alloc (.cells #[.int .u8 c0, .int .u8 c1] 5)) ⟨w.heap.size, 0, none⟩ 2 2 [c0, c1] (run_loadCells_list (P := Try.prog) _ _ [.int .u8 c0, .int .u8 c1] fun j v hv => cells_new rfl j v hv)]
  rfl
theorem name_same (s : Int) (h0 : 0 ≤ s) (h1 : s < 64) : (sqName s).toList = [UInt8.ofNat (97 + s % 8).toNat, UInt8.ofNat (49 + s / 8).toNat] := by
  have e1 : (97 + s % 8).toNat = 97 + (s % 8).toNat := by omega
  have e2 : (49 + s / 8).toNat = 49 + (s / 8).toNat := by omega
  rw [e1, e2, ByteArray.toList_eq]
  rfl

theorem law_walk (n s : Int) (h0 : 0 ≤ n) (hs : n % 64 = s) (h1 : 0 ≤ s) (h2 : s < 64) (w : World) :
    Calls Try.prog 4 #[.int .u8 n] w fun e w' => e = .returned (.bool true) ∧ Below w.heap.size w w' := by
  have hm : n.tmod 64 = s := by rw [Int.tmod_eq_emod_of_nonneg h0]; exact hs
  have hcv := conv2
  have hsame := name_same s h1 h2
  have hat : 8 * (s / 8) + s % 8 = s := by omega
  have hat := Lib.hid hat
  have hp : Below w.heap.size w (w.alloc (.cells #[.int .u8 (97 + s % 8), .int .u8 (49 + s / 8)] 5)) := (Below.refl _ _).alloc (Nat.le_refl _) _
  clear hs
  go_enter Try.func4, Try.ntmps4
  by_cases hc : (s % 8 + s / 8) % 2 = 0
  all_goals
    go_wp2_with (first
      | (go_at_call 6; refine (squareName_any _ (by omega) (by omega) _).mono ?_; rintro e w1 ⟨rfl, hb1⟩; have hb2 := hp.trans (hb1.mono hp.size))
      | (go_at_call 7; refine (squareAt_any _ _ (by omega) (by omega) (by omega) (by omega) _).mono ?_; rintro e w2 ⟨rfl, hb3⟩; have hb4 := hb2.trans (hb3.mono hb2.size); rw [hat.out])
      | (go_at_call 8; refine (squareColor_any s _ (by omega) (by omega) rfl (by split <;> omega) (by split <;> omega) _).mono ?_; rintro e w3 ⟨rfl, hb5⟩; have hb6 := hb4.trans (hb5.mono hb4.size); simp only [hc, if_true, if_false])
      | (go_at_call 9; refine (named_any _ (by omega) (by omega) _).mono ?_; rintro e w4 ⟨rfl, hb7⟩; have hb8 := hb6.trans (hb7.mono hb6.size)))
    go_ret
    exact ⟨rfl, hb8⟩

theorem walk (a0 : Int) (w0 : (Lit.int .u8 a0).wf = true) (W : World) :
    Calls Try.prog 4 #[.int .u8 a0] W fun e w' => e = .returned (.bool true) ∧ Below W.heap.size W w' := by
  have h0 := bounds_u8 w0
  exact law_walk a0 (a0 % 64) h0.1 rfl (by omega) (by omega) W

theorem own : ownKnob Try.prog.godebug = none := by kernel_rfl
set_option maxRecDepth 100000 in
theorem lifted (os : Os) (started : os.Started) (H : Type) (enc : TypeId × Value → H) :
    ReturnsInHanded {} Try.checked os 4 .any (Rows.fnNmSquaresSpec.pre6 enc Try.prog Try.f4 Rows.fnNmSquaresRow.domain false) (Rows.fnNmSquaresSpec.post enc Try.prog Try.f4 false true false false) := by
  refine returnsInHanded_of_change (C := Try.checked) own started (by kernel_rfl) Try.func4
    (ChangeSpec.witness6 (enc := enc) (C := Try.checked) false ⟨#[], #[.int .u8 0], []⟩ 8 (by kernel_rfl) (by kernel_rfl) (by kernel_rfl) (by kernel_rfl)) ?_
  intro W base args ds gs before hval0 hW hcnd hsz
  have hval : ∀ (j : Nat) t v, Try.f4.params[j]? = some t → args[j]? = some v → Value.okWide Try.prog W .any base t v := hval0
  have hW' := hW
  obtain ⟨p, q, hA0, hV, rfl, hfz, hnd⟩ := hW
  have hA : DataW.TrodAll enc Try.prog W 0 (fun _ => true) true Try.f4.params.toList args.toList ds p := hA0
  rw [Try.params4] at hA hval
  obtain ⟨v0, vs0, d0, ds0, p0, q0, hargs0, rfl, rfl, h0, r0⟩ := trodAll_cons hA
  obtain ⟨hnil, rfl, rfl⟩ := trodAll_nil r0
  obtain rfl : args = #[v0] := by cases args; simp_all
  obtain ⟨rfl, rfl⟩ := trodVars_none hV
  obtain ⟨a0, rfl, rfl, rfl, w0⟩ := open_int Try.underlying5 (hval 0 5 v0 rfl rfl) h0
  clear hA0 hval0
  simp only [List.append_nil] at hW'
  refine (walk a0 w0 W).mono fun e W' ⟨he, hg⟩ => ?_
  subst he
  exact ⟨_, rfl, post_of_below (pa := []) (pv := []) hW' (fun _ _ _ => (trodAll_cons_mk (shut_bool Try.underlying4 _) trodAll_mk0)) (fun sp _ => (trodAll_cons_mk (shut_int Try.underlying5 w0) trodAll_mk0)) (fun _ _ => rfl) rfl hg (ok_one (by kernel_rfl) rfl (okWide_bool_mk Try.underlying4 _))⟩
theorem over : Rows.fnNmSquaresRow.holds Try.pinned (OpenSpec.ofChange Rows.fnNmSquaresSpec) :=
  OpenClaim.holds_of_wide 4 Try.f4 rfl rfl rfl rfl rfl rfl rfl ⟨rfl, rfl, rfl, rfl, rfl⟩ rfl rfl rfl rfl rfl (by kernel_rfl) Try.func4 (by kernel_rfl)
    (of_decide_eq_true (by kernel_rfl)) (by unfold Func.isWrapper; first | (rw [if_pos (by decide +kernel)]; kernel_rfl) | (rw [if_neg (by decide +kernel)]; exact ⟨rfl, rfl⟩))
    (fun os started H enc _ => lifted os started H enc)
/-- The statement. -/
theorem proved : Rows.FnNmSquaresSaid := over
#print axioms proved
end Go.Proofs.Ytofjlnillbphkaa.Squares

/- The law of options, way by way. -/
import Derived.Test.YtkbbncobgmepbaaOptImpl
import Derived.Laws.AppendOwnNone
namespace Go.Proofs.Ytkbbncobgmepbaa
open Go.ChangeShapes Go.WideShapes Go.ChangeAt Go.RowKit Go.PlainAid
set_option maxHeartbeats 1000000
set_option linter.unusedVariables false
set_option linter.unusedSimpArgs false
attribute [local go_sem] tx_list tx_size
theorem fits12_long (v : Value) (l : List (List UInt8)) (w : World) (h : TextsAt w v l) (hl : 2147483647 < l.length) :
    Calls Try.prog 12 #[v] w fun e w' => e = .returned (.bool false) ∧ w' = w := by
  rcases h with ⟨a0, c0, rfl, rfl, _⟩ | ⟨g, o, cap, rfl, hg, hcells⟩
  · simp at hl
  · have hd : decide ((2147483647 : Int) < (l.length : Int)) = true := by simp; omega
    clear hcells
    go_enter Try.func12, Try.ntmps12
    go_wp2
    go_ret
    exact ⟨rfl, rfl⟩
set_option maxRecDepth 100000 in
theorem fits11_long (f : Nat → List UInt8) (v : Value) (l : List (List UInt8)) (w : World) (h : TextsAt w v l) (hl : 2147483647 < l.length) :
    Calls Try.prog 5 #[optV f v] w fun e w' => e = .returned (.bool false) ∧ Below w.heap.size w w' := by
  have hone : v.cells = #[v] := by
    rcases h with ⟨a0, c0, rfl, _⟩ | ⟨g, o, cap, rfl, _⟩ <;> rfl
  have hB : Below w.heap.size w (w.alloc (.cells #[.string (tx (f 0)), .string (tx (f 1)), .string (tx (f 2)), .string (tx (f 3)), .string (tx (f 4)), v] 24)) := (Below.refl _ _).alloc (Nat.le_refl _) _
  have h12 := Lib.hid (fits12_long v l _ (h.below hB) hl)
  replace hB := Lib.hid hB
  clear h
  unfold optV
  generalize f 0 = f0 at *
  generalize f 1 = f1 at *
  generalize f 2 = f2 at *
  generalize f 3 = f3 at *
  generalize f 4 = f4 at *
  go_enter Try.func5, Try.ntmps5
  go_wp2_with (go_at_call 12; refine h12.out.mono ?_; rintro e w' ⟨rfl, rfl⟩)
  all_goals
    go_ret
    exact ⟨rfl, hB.out⟩
set_option maxRecDepth 100000 in
theorem law_unfit (f : Nat → List UInt8) (v : Value) (l : List (List UInt8)) (w : World) (hone : v.cells = #[v])
    (hfit : ∀ w1, Below w.heap.size w w1 → Calls Try.prog 5 #[optV f v] w1 fun e w' => e = .returned (.bool false) ∧ Below w1.heap.size w1 w') :
    Calls Try.prog 3 #[optV f v] w fun e w' => e = .returned (.bool true) ∧ Below w.heap.size w w' := by
  have hB : Below w.heap.size w (w.alloc (.cells #[.string (tx (f 0)), .string (tx (f 1)), .string (tx (f 2)), .string (tx (f 3)), .string (tx (f 4)), v] 24)) := (Below.refl _ _).alloc (Nat.le_refl _) _
  have hc := hfit _ hB
  unfold optV at hc ⊢
  replace hc := Lib.hid hc
  replace hB := Lib.hid hB
  clear hfit
  go_enter Try.func3, Try.ntmps3
  go_wp2_with (go_at_call 5; refine hc.out.mono ?_; rintro e w1 ⟨rfl, hb1⟩)
  go_ret
  exact ⟨rfl, hB.out.trans (hb1.mono hB.out.size)⟩
theorem fits_len {f : Nat → List UInt8} {l : List (List UInt8)} (h : fitsOpt f l = true) (i : Nat) (hi : i < 5) : (f i).length ≤ 2147483647 := by
  unfold fitsOpt tooLong at h
  simp only [Bool.and_eq_true, Bool.not_eq_true', decide_eq_false_iff_not] at h
  have : i = 0 ∨ i = 1 ∨ i = 2 ∨ i = 3 ∨ i = 4 := by omega
  rcases this with rfl | rfl | rfl | rfl | rfl <;> omega
def anyT (x : List UInt8) (k : Nat) : Bool := (List.range k).any fun i => x == typeT i
theorem anyT_succ (x : List UInt8) (k : Nat) : anyT x (k + 1) = (anyT x k || x == typeT k) := by
  simp [anyT, List.range_succ]
theorem typeS_cells (w : World) : ∀ k, k < 5 → (w.alloc (.cells typeCells 9)).cell? ⟨w.heap.size, k, none⟩ = some (.string (tx (typeT k))) := by
  intro k hk
  have : k = 0 ∨ k = 1 ∨ k = 2 ∨ k = 3 ∨ k = 4 := by omega
  rcases this with rfl | rfl | rfl | rfl | rfl <;> simp [go_sem, typeCells]
/-- What the law holds while it looks at the types. -/
def LawT (f : Nat → List UInt8) (v : Value) (g : Nat) (w0 w : World) : Prop :=
  OptAt f v w0.heap.size w0 w ∧ g < w.heap.size ∧ ∀ k, k < 5 → w.cell? ⟨g, k, none⟩ = some (.string (tx (typeT k)))
theorem LawT.below {f : Nat → List UInt8} {v : Value} {g : Nat} {w0 w w' : World} (h : LawT f v g w0 w) (hb : Below w.heap.size w w') : LawT f v g w0 w' :=
  ⟨h.1.below hb, Nat.lt_of_lt_of_le h.2.1 hb.size, fun k hk => by rw [hb.cell (show (⟨g, k, none⟩ : Addr).block < w.heap.size from h.2.1)]; exact h.2.2 k hk⟩
theorem wpList_cat_texts {ops : Array Oper} {rest : List Oper} {o : Oper} {ac : Act} {w : World} {Q : Exit → Act → World → Prop} (hgd : o.guard = none) (s x : Operand) (ho : o.op = .call { callee := .builtin .append, args := #[s, x], argTypes := #[22, 22] })
    (B : Nat) (v0 : Value) (n : Nat) (xs : List Value) (hs : ac.eval s = v0) (hown : w.ownsRow B 9 1 v0 n xs) (hB : B ≤ w.heap.size) (vv : Value) (l : List (List UInt8)) (hx : ac.eval x = vv) (hT : TextsAt w vv l) (hn : n + l.length ≤ 1000)
    (h : ∀ v' w', w'.ownsRow B 9 1 v' (n + l.length) (xs ++ strs l) → Below B w w' → wpList Try.prog ops Q rest (ac.put o.dst v') w') : wpList Try.prog ops Q (o :: rest) ac w := by
  obtain ⟨i0, hi, hz0, hz1, hz2⟩ := info_parts infoStr
  rcases hT with ⟨a0, c0, rfl, rfl, hn0⟩ | ⟨g, o', cap, rfl, hg, hc⟩
  · cases a0 with
    | none =>
      obtain rfl := hn0 rfl
      refine wpList_append_own_none hgd s x 22 ho B 9 i0 1 Try.underlying22 hi v0 n xs hs hown hx ?_
      refine h v0 w ?_ (Below.refl _ _)
      simpa [strs] using hown
    | some ad =>
      refine wpList_append_own w hgd s x 22 ho B 9 i0 (.string ByteArray.empty) 1 16 Try.underlying22 hi hz0 hz1 hz2 rfl (by decide) v0 n xs hs hown ad 0 c0 [] hx rfl (fun j u hj => by simp at hj) (fun u hu => by simp at hu) (by unfold maxLen; omega) (by omega) hB ?_
      intro v' w' hown' hgr _
      exact h v' w' hown' ⟨hgr.os, hgr.tape, hgr.output, hgr.size, fun k hk => hgr.block k (by omega) (fun e => by have := (hown.lt k e.symm).1; omega)⟩
  · refine wpList_append_own w hgd s x 22 ho B 9 i0 (.string ByteArray.empty) 1 16 Try.underlying22 hi hz0 hz1 hz2 rfl (by decide) v0 n xs hs hown ⟨g, o', none⟩ l.length cap (strs l) hx (by simp [strs]) (fun j u hj => ?_) (fun u hu => ?_) (by unfold maxLen; omega) (by omega) hB ?_
    · have hjl : j < l.length := by
        rcases Nat.lt_or_ge j l.length with h | h
        · exact h
        · rw [List.getElem?_eq_none (by simpa [strs] using h)] at hj; cases hj
      rw [show (⟨g, o', none⟩ : Addr).add j = ⟨g, o' + j, none⟩ from Addr.add_mid g o' j, hc j hjl]
      simp only [strs, List.getElem?_map, List.getElem?_eq_getElem hjl, Option.map_some, Option.some.injEq] at hj
      rw [← hj, List.getD_eq_getElem?_getD, List.getElem?_eq_getElem hjl, Option.getD_some]
    · simp only [strs, List.mem_map] at hu
      obtain ⟨y, _, rfl⟩ := hu
      rfl
    · intro v' w' hown' hgr _
      exact h v' w' hown' ⟨hgr.os, hgr.tape, hgr.output, hgr.size, fun k hk => hgr.block k (by omega) (fun e => by have := (hown.lt k e.symm).1; omega)⟩
theorem own_four (w : World) (a b c d : Value) : (w.alloc (.cells #[a, b, c, d] 9)).ownsRow w.heap.size 9 1 (.slice (some ⟨w.heap.size, 0, none⟩) 4 4) 4 [a, b, c, d] :=
  ⟨rfl, .inr ⟨w.heap.size, 4, _, rfl, Nat.le_refl _, heap_alloc_new w _, Nat.le_refl _, by decide, rfl, rfl⟩⟩
def allT (f : Nat → List UInt8) (l : List (List UInt8)) : List (List UInt8) := [f 0, f 2, f 3, f 4] ++ l
def goodT (j : Nat) (x : List UInt8) : Prop := x.length ≤ 40 ∧ (x = [] ∨ isWord x = true) ∧ (3 < j → x ≠ [])
theorem good_succ {l : List (List UInt8)} {k : Nat} (h : ∀ j, j < k → goodT j (l.getD j [])) (hk : goodT k (l.getD k [])) : ∀ j, j < k + 1 → goodT j (l.getD j []) := fun j hj => by
  rcases Nat.lt_succ_iff_lt_or_eq.1 hj with h1 | rfl
  · exact h j h1
  · exact hk
theorem isWord_noB {x : List UInt8} (h : isWord x = true) : NoB x ∧ x ≠ [] := by
  unfold isWord at h
  rw [Bool.and_eq_true] at h
  refine ⟨(noBlank_iff x).1 h.1, fun e => ?_⟩
  rw [e] at h; simp at h
theorem good_noB {j : Nat} {x : List UInt8} (h : goodT j x) : NoB x := by
  rcases h.2.1 with rfl | h
  · simp [NoB]
  · exact (isWord_noB h).1
theorem typeT_noB (i : Nat) (hi : i < 5) : NoB (typeT i) ∧ (typeT i).length ≤ 40 := by
  have : i = 0 ∨ i = 1 ∨ i = 2 ∨ i = 3 ∨ i = 4 := by omega
  rcases this with rfl | rfl | rfl | rfl | rfl <;> simp [NoB, typeT]
/-- What the tests of the law say together. -/
theorem good_all {f : Nat → List UInt8} {l : List (List UInt8)} (hg : ∀ j, j < (allT f l).length → goodT j ((allT f l).getD j [])) (h10 : l.length ≤ 10) (hr : anyT (f 1) 5 = true) :
    OptOk f l ∧ (∀ i, i < 5 → NoB (f i)) ∧ (∀ i, i < l.length → NoB (l.getD i [])) ∧ ∃ ti, ti < 5 ∧ f 1 = typeT ti := by
  obtain ⟨ti, hti, hf⟩ : ∃ ti, ti < 5 ∧ f 1 = typeT ti := by
    unfold anyT at hr
    rw [List.any_eq_true] at hr
    obtain ⟨i, hi, h⟩ := hr
    exact ⟨i, List.mem_range.1 hi, by simpa using h⟩
  have hlen : (allT f l).length = l.length + 4 := by simp [allT]
  have h0 := hg 0 (by omega)
  have h2 := hg 1 (by omega)
  have h3 := hg 2 (by omega)
  have h4 := hg 3 (by omega)
  have hl : ∀ i, i < l.length → goodT (4 + i) (l.getD i []) := fun i hi => by
    have := hg (4 + i) (by omega)
    have e : (allT f l).getD (4 + i) [] = l.getD i [] := by
      simp [allT, List.getD_eq_getElem?_getD, show 4 + i = i + 1 + 1 + 1 + 1 by omega]
    rwa [e] at this
  have h1 := typeT_noB ti hti
  rw [← hf] at h1
  refine ⟨⟨fun i hi => ?_, fun i hi => (hl i hi).1, h10⟩, fun i hi => ?_, fun i hi => good_noB (hl i hi), ti, hti, hf⟩
  · have : i = 0 ∨ i = 1 ∨ i = 2 ∨ i = 3 ∨ i = 4 := by omega
    rcases this with rfl | rfl | rfl | rfl | rfl
    · exact h0.1
    · exact h1.2
    · exact h2.1
    · exact h3.1
    · exact h4.1
  · have : i = 0 ∨ i = 1 ∨ i = 2 ∨ i = 3 ∨ i = 4 := by omega
    rcases this with rfl | rfl | rfl | rfl | rfl
    · exact good_noB h0
    · exact h1.1
    · exact good_noB h2
    · exact good_noB h3
    · exact good_noB h4
set_option maxRecDepth 100000 in
theorem law_main (f : Nat → List UInt8) (v : Value) (l : List (List UInt8)) (w : World) (h : TextsAt w v l) (hfit : fitsOpt f l = true) (hl : l.length ≤ 2147483647) :
    Calls Try.prog 3 #[optV f v] w fun e w' => e = .returned (.bool true) ∧ Below w.heap.size w w' := by
  obtain ⟨av, cv, rfl, _⟩ := h.norm
  have hB := optAt_new f (.slice av l.length cv) w
  have hc := fits11_any f (.slice av l.length cv) l _ (h.below hB.2.2.2) hl
  rw [hfit] at hc
  unfold optV at hc ⊢
  replace hc := Lib.hid hc
  replace hB := Lib.hid hB
  replace hfit := Lib.hid hfit
  replace h := Lib.hid h
  go_enter Try.func3, Try.ntmps3
  go_wp2_with (go_at_call 5; refine hc.out.mono ?_; rintro e w1 ⟨rfl, hb1⟩)
  have hT : LawT f (.slice av l.length cv) w1.heap.size w (w1.alloc (.cells typeCells 9)) := ⟨(hB.out.below hb1).below ((Below.refl _ _).alloc (Nat.le_refl _) _), by simp, typeS_cells w1⟩
  change Code.wp _ _ _ _ (w1.alloc (.cells typeCells 9))
  generalize (w1.alloc (.cells typeCells 9)) = w2 at *
  generalize w1.heap.size = g at *
  clear hb1 hc hB
  go_loopw [4, 5] (fun r i wr => ∃ k : Nat, k ≤ 5 ∧ i = .int .i64 k ∧ r = .bool (anyT (f 1) k) ∧ LawT f (.slice av l.length cv) g w wr) (fun _ i _ => 5 - (intOf i).toNat)
  case atStart => exact ⟨0, by omega, rfl, rfl, hT⟩
  case round =>
    clear hT
    obtain ⟨k, hk, rfl, rfl, hT⟩ := hrel
    by_cases hlt : k < 5
    · have c1 := hT.1.2.1 1 (by omega)
      have ck := hT.2.2 k hlt
      have hs := Lib.hid (anyT_succ (f 1) k)
      replace hT := Lib.hid hT
      have hk0 : (0 : Int) ≤ (k : Int) := by omega
      have hk5 : (k : Int) < 5 := by omega
      generalize typeT k = x at *
      generalize f 1 = y at *
      generalize anyT y k = b at *
      cases b
      all_goals
        go_wp2
        go_quiet (fail)
        go_wp2
        exact ⟨⟨k + 1, by omega, by go_num, by rw [hs.out]; rfl, hT.out.below ⟨rfl, rfl, rfl, Nat.le_refl _, fun _ _ => rfl⟩⟩, by simp [intOf]; omega⟩
    · obtain rfl : k = 5 := by omega
      have c0 := hT.1.2.1 0 (by omega)
      have c5 := hT.1.2.2.1
      cases hr : anyT (f 1) 5
      · have hBl := Lib.hid hT.1.2.2.2
        clear hT c0 c5
        go_wp2
        go_ret
        exact ⟨rfl, hBl.out⟩
      · have hw0 := fun w => uciWord_any (f 0) (fits_len hfit.out 0 (by omega)) w
        cases hw1 : isWord (f 0)
        · rw [hw1] at hw0
          replace hw0 := Lib.hid hw0
          have hBl := Lib.hid hT.1.2.2.2
          clear hT c5
          replace hw1 := Lib.hid hw1
          replace hr := Lib.hid hr
          generalize f 0 = x at *
          go_wp2_with (go_at_call 6; refine (hw0.out _).mono ?_; rintro e w' ⟨rfl, rfl⟩)
          go_ret
          exact ⟨rfl, hBl.out⟩
        · rw [hw1] at hw0
          replace hw0 := Lib.hid hw0
          replace hw1 := Lib.hid hw1
          replace hr := Lib.hid hr
          by_cases h10 : l.length ≤ 10
          · have hd : decide ((10 : Int) < (l.length : Int)) = false := by simp; omega
            have c2 := hT.1.2.1 2 (by omega)
            have c3 := hT.1.2.1 3 (by omega)
            have c4 := hT.1.2.1 4 (by omega)
            have c5' : ∀ X, (wr.alloc X).cell? ⟨w.heap.size, 5, none⟩ = some (.slice av l.length cv) := fun X => (((Below.refl _ wr).alloc (Nat.le_refl _) X).cell (p := ⟨w.heap.size, 5, none⟩) hT.1.1).trans c5
            have hTx := fun X => h.out.below (hT.1.2.2.2.alloc (by have := hT.1.2.2.2.size; omega) X)
            have hBX := Lib.hid hT.1
            replace hTx := Lib.hid hTx
            clear hT
            go_wp2_with (first
              | (go_at_call 6; refine (hw0.out _).mono ?_; rintro e w' ⟨rfl, rfl⟩)
              | (at_builtin; refine wpList_cat_texts rfl _ _ rfl _ _ 4 _ rfl (own_four _ _ _ _ _) (by simp) (.slice av l.length cv) l rfl (hTx.out _) (by omega) ?_; intro v' w5 hown5 hb5; have hO5 := hBX.out.below (((Below.refl _ _).alloc (Nat.le_refl _) _).trans hb5); clear hBX hb5 hTx))
            obtain ⟨g5, cap5, rfl, hg5, hgl5, hcp5, hcl5⟩ := own_strs (l := allT f l) (by have e : (allT f l).length = 4 + l.length := (by simp [allT]; omega); rw [e]; exact hown5) (by simp [allT])
            have hn4 : (allT f l).length = 4 + l.length := by simp [allT]; omega
            have hn9 : (allT f l).length ≤ 20 := by omega
            replace hn4 := Lib.hid hn4
            replace hcl5 := Lib.hid hcl5
            replace hO5 := Lib.hid hO5
            replace hr := hr.out
            replace hr := Lib.hid hr
            clear hw0 hd c0 c2 c3 c4 c5 c5' hown5
            go_loopw [7] (fun i wr => ∃ k : Nat, k ≤ (allT f l).length ∧ i = .int .i64 k ∧ (∀ j, j < k → goodT j ((allT f l).getD j [])) ∧ w5 = wr) (fun i _ => (allT f l).length - (intOf i).toNat)
            case atStart => exact ⟨0, by omega, rfl, fun j hj => by omega, rfl⟩
            case round =>
              obtain ⟨k, hk, rfl, hgood, rfl⟩ := hrel
              by_cases hlt : k < (allT f l).length
              · have hBl := Lib.hid hO5.out.2.2.2
                have ck := hcl5.out k hlt
                have hw1 := fun h w => uciWord_any ((allT f l).getD k []) h w
                by_cases hg40 : ((allT f l).getD k []).length ≤ 40
                · have hd40 : decide ((40 : Int) < (((allT f l).getD k []).length : Int)) = false := decide_eq_false (by omega)
                  replace hw1 := hw1 (by omega)
                  cases hnil : ((allT f l).getD k []).isEmpty
                  · cases hwk : isWord ((allT f l).getD k [])
                    · rw [hwk] at hw1
                      replace hw1 := Lib.hid hw1
                      replace hwk := Lib.hid hwk
                      clear hgood hcl5 hO5
                      generalize (allT f l).getD k [] = x at *
                      go_wp2_with (go_at_call 6; refine (hw1.out _).mono ?_; rintro e w' ⟨rfl, rfl⟩)
                      go_ret
                      exact ⟨rfl, hBl.out⟩
                    · have hgood' := Lib.hid (good_succ hgood ⟨hg40, .inr hwk, fun _ e => by rw [e] at hnil; simp at hnil⟩)
                      rw [hwk] at hw1
                      replace hw1 := Lib.hid hw1
                      replace hwk := Lib.hid hwk
                      clear hgood hcl5 hO5
                      cases h3 : decide ((3 : Int) < (k : Int))
                      all_goals
                        generalize hxe : (allT f l).getD k [] = x at *
                        replace hxe := Lib.hid hxe
                        go_wp2_with (go_at_call 6; refine (hw1.out _).mono ?_; rintro e w' ⟨rfl, rfl⟩)
                        exact ⟨⟨k + 1, by omega, by go_num, hgood'.out, trivial⟩, by simp [intOf]; omega⟩
                  · cases h3 : decide ((3 : Int) < (k : Int))
                    · have hgood' := Lib.hid (good_succ hgood ⟨hg40, .inl (by simpa using hnil), fun h => by have := of_decide_eq_false h3; omega⟩)
                      clear hgood hw1 hcl5 hO5
                      generalize hxe : (allT f l).getD k [] = x at *
                      replace hxe := Lib.hid hxe
                      go_wp2
                      exact ⟨⟨k + 1, by omega, by go_num, hgood'.out, trivial⟩, by simp [intOf]; omega⟩
                    · clear hgood hw1 hcl5 hO5
                      generalize (allT f l).getD k [] = x at *
                      go_wp2
                      go_ret
                      exact ⟨rfl, hBl.out⟩
                · have hd40 : decide ((40 : Int) < (((allT f l).getD k []).length : Int)) = true := decide_eq_true (by omega)
                  clear hgood hw1 hcl5 hO5
                  generalize (allT f l).getD k [] = x at *
                  go_wp2
                  go_ret
                  exact ⟨rfl, hBl.out⟩
              · obtain rfl : k = (allT f l).length := by omega
                obtain ⟨hok, hno, hnl, ti, hti, hf1⟩ := good_all hgood h10 hr.out
                have hO := hO5.out
                have hT5 := h.out.below hO.2.2.2
                have htext := Lib.hid (optText_any f (.slice av l.length cv) l w5 hT5 hok)
                have hread := Lib.hid (fun w => optRead_any f l hok hno hnl (isWord_noB hw1.out).2 ti hti hf1 w)
                have c0 := hO.2.1 0 (by omega)
                have c1 := hO.2.1 1 (by omega)
                have c2 := hO.2.1 2 (by omega)
                have c3 := hO.2.1 3 (by omega)
                have c4 := hO.2.1 4 (by omega)
                have c5 := hO.2.2.1
                have hkeep := Lib.hid (fun w6 (hb : Below w5.heap.size w5 w6) => hO.below hb)
                have hkeepT := Lib.hid (fun w6 (hb : Below w5.heap.size w5 w6) => hT5.below hb)
                unfold optV at htext
                clear hgood hcl5 hO5 hO hT5 hf1 hno hnl hok
                go_wp2_with (first
                  | (go_at_call 8; refine htext.out.mono ?_; rintro e w6 ⟨rfl, hb6⟩)
                  | (go_at_call 7; refine (hread.out _).mono ?_; rintro e w7 ⟨⟨v7, rfl, hT7⟩, hb7⟩; obtain ⟨a7, c7, rfl, _⟩ := hT7.norm; unfold optV; have hk7 := fun X => (hkeep.out w7 (hb6.trans (hb7.mono hb6.size))).below ((Below.refl _ _).alloc (Nat.le_refl _) X); have d0 := fun X => (hk7 X).2.1 0 (by omega); have d1 := fun X => (hk7 X).2.1 1 (by omega); have d2 := fun X => (hk7 X).2.1 2 (by omega); have d3 := fun X => (hk7 X).2.1 3 (by omega); have d4 := fun X => (hk7 X).2.1 4 (by omega); have d5 := fun X => (hk7 X).2.2.1; have hs7 := fun X => (fun h h' => same_any f (.slice av l.length cv) (.slice a7 l.length c7) l (w7.alloc X) h h' (by omega)) ((hkeepT.out w7 (hb6.trans (hb7.mono hb6.size))).below ((Below.refl _ _).alloc (Nat.le_refl _) X)) (hT7.below ((Below.refl _ _).alloc (Nat.le_refl _) X)); unfold optV at hs7; replace hs7 := Lib.hid hs7; replace hk7 := Lib.hid hk7; clear c0 c1 c2 c3 c4 c5)
                  | (go_at_call 9; refine (hs7.out _).mono ?_; rintro e w9 ⟨rfl, hb9⟩))
                go_ret
                exact ⟨rfl, ((hk7.out _).2.2.2).trans (hb9.mono (hk7.out _).2.2.2.size)⟩
          · have hd : decide ((10 : Int) < (l.length : Int)) = true := by simp; omega
            have hBl := Lib.hid hT.1.2.2.2
            clear hT
            generalize f 0 = x at *
            go_wp2_with (go_at_call 6; refine (hw0.out _).mono ?_; rintro e w' ⟨rfl, rfl⟩)
            go_ret
            exact ⟨rfl, hBl.out⟩
end Go.Proofs.Ytkbbncobgmepbaa

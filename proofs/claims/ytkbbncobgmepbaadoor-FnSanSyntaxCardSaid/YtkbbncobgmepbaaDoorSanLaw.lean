/- Standard algebraic notation: the law FnSanSyntax, walked. -/
import Derived.Test.YtkbbncobgmepbaaDoorSanSm
import Derived.ChangeKeysEq
namespace Go.Proofs.YtkbbncobgmepbaaDoor
open Go.ChangeShapes Go.WideShapes Go.ChangeAt Go.RowKit Go.PlainAid
set_option maxHeartbeats 4000000
set_option linter.unusedVariables false
set_option linter.unusedSimpArgs false
attribute [local go_sem] tx_list tx_size

theorem spParts_any (L : List UInt8) (hL : L.length ≤ 100) (w : World) :
    Calls Tryd.prog 6 #[.string (tx L)] w fun e w' => SpPost L w e w' := by
  by_cases h5 : 5 ≤ L.length ∧ (L.take 5 == castA) = true
  · exact sanParts_A L hL h5.1 h5.2 w
  · have h5' : ¬ 5 ≤ L.length ∨ (L.take 5 == castA) = false := by
      by_cases h : 5 ≤ L.length
      · right
        cases e : (L.take 5 == castA)
        · rfl
        · exact absurd ⟨h, e⟩ h5
      · exact .inl h
    by_cases h3 : 3 ≤ L.length ∧ (L.take 3 == castO) = true
    · by_cases hl : 5 ≤ L.length
      · exact sanParts_P L hL h3.1 h3.2 hl (h5'.elim (fun h => absurd hl h) id) w
      · exact sanParts_O L hL h3.1 h3.2 hl w
    · have h3' : ¬ 3 ≤ L.length ∨ (L.take 3 == castO) = false := by
        by_cases h : 3 ≤ L.length
        · right
          cases e : (L.take 3 == castO)
          · rfl
          · exact absurd ⟨h, e⟩ h3
        · exact .inl h
      refine sanParts_M L hL ?_ ?_ (castA_no h5') ?_ w
      · by_cases h : 5 ≤ L.length
        · exact .inr ⟨decide_eq_true (by omega), h5'.elim (fun g => absurd h g) id⟩
        · exact .inl (decide_eq_false (by omega))
      · by_cases h : 3 ≤ L.length
        · exact .inr ⟨decide_eq_true (by omega), h3'.elim (fun g => absurd h g) id⟩
        · exact .inl (decide_eq_false (by omega))
      · rw [castB_def L castO 3 rfl]
        rcases h3' with h | h
        · rw [decide_eq_false h, Bool.false_and, Bool.false_and]
        · rw [h, Bool.and_false, Bool.false_and]
/-! Where the text is read as l, and where it is not. -/
theorem spParts_yes (L : List UInt8) (hL : L.length ≤ 100) (l : List (List UInt8)) (hR : SanR L (some l)) (w : World) :
    Calls Tryd.prog 6 #[.string (tx L)] w fun e w' => e = .returned (.tuple #[.agg (eight l), .bool true]) ∧ Below w.heap.size w w' :=
  (spParts_any L hL w).mono fun e w' ⟨⟨l', b, he, ho⟩, hb⟩ => by
    rcases ho with ⟨h1, _, rfl⟩ | ⟨h1, _⟩
    · obtain rfl := Option.some.inj (h1.uniq hR)
      exact ⟨he, hb⟩
    · cases h1.uniq hR
theorem spParts_no (L : List UInt8) (hL : L.length ≤ 100) (hR : ¬ ∃ l, SanR L (some l)) (w : World) :
    Calls Tryd.prog 6 #[.string (tx L)] w fun e w' => (∃ l, e = .returned (.tuple #[.agg (eight l), .bool false])) ∧ Below w.heap.size w w' :=
  (spParts_any L hL w).mono fun e w' ⟨⟨l', b, he, ho⟩, hb⟩ => by
    rcases ho with ⟨h1, _, rfl⟩ | ⟨h1, rfl⟩
    · exact absurd ⟨_, h1⟩ hR
    · exact ⟨⟨_, he⟩, hb⟩
theorem outB_yes {L : List UInt8} {l l' : List (List UInt8)} {b : Bool} (hR : SanR L (some l)) (h : OutB L l' b) : l' = l ∧ b = true := by
  rcases h with ⟨h1, _, rfl⟩ | ⟨h1, _⟩
  · exact ⟨Option.some.inj (h1.uniq hR), rfl⟩
  · cases h1.uniq hR
theorem outB_no {L : List UInt8} {l' : List (List UInt8)} {b : Bool} (hR : ¬ ∃ l, SanR L (some l)) (h : OutB L l' b) : l' = [] ∧ b = false := by
  rcases h with ⟨h1, _, rfl⟩ | ⟨h1, rfl, rfl⟩
  · exact absurd ⟨_, h1⟩ hR
  · exact ⟨rfl, rfl⟩
def catK (l : List (List UInt8)) : Nat → List UInt8
  | 0 => []
  | k + 1 => catK l k ++ l.getD k []
theorem catK_eight (l : List (List UInt8)) : catK l 8 = cat8 l := by simp [catK, cat8]
theorem catK_len {l : List (List UInt8)} (h : ∀ i, i < 8 → (l.getD i []).length ≤ 200) : ∀ k, k ≤ 8 → (catK l k).length ≤ 200 * k
  | 0, _ => by simp [catK]
  | k + 1, hk => by
    have ih := catK_len h k (by omega)
    have := h k (by omega)
    unfold catK
    rw [List.length_append]; omega
theorem tx_app' (a b : List UInt8) : tx a ++ tx b = tx (a ++ b) := tx_app a b
set_option maxRecDepth 100000 in
theorem spClean_yes (L : List UInt8) (hL : L.length ≤ 100) (l : List (List UInt8)) (hR : SanR L (some l)) (h8 : l.length = 8) (w : World) :
    Calls Tryd.prog 10 #[.string (tx L)] w fun e w' => e = .returned (.string (tx (cat8 l))) ∧ Below w.heap.size w w' := by
  have hlen := outcome_len (L := L) (l := l) (er := .nilIface) (.inl ⟨hR, h8, rfl⟩) hL
  have hk := fun k hk => catK_len hlen k hk
  have hp := Lib.hid (spParts_yes L hL l hR w)
  have hc8 := catK_eight l
  replace hc8 := Lib.hid hc8
  clear hR h8
  go_enter Tryd.func10, Tryd.ntmps10
  go_wp2_with (fail)
  refine hp.out.mono ?_
  rintro e w2 ⟨rfl, hb2⟩
  have hrow := World.rowIs_alloc w2 (eight l) 22 (eightF l) (fun i hi => eight_get l i hi)
  have hB := hb2.alloc hb2.size (.cells (eight l) 22)
  have hlt : w2.heap.size < (w2.alloc (.cells (eight l) 22)).heap.size := by simp
  replace hrow := Lib.hid hrow
  replace hB := Lib.hid hB
  unfold eight
  go_wp2_with (fail)
  change Code.wp _ _ _ _ (w2.alloc (.cells (eight l) 22))
  generalize (w2.alloc (.cells (eight l) 22)) = w3 at *
  go_loopw [5, 6] (fun s k wr => ∃ q : Nat, q ≤ 8 ∧ k = .int .i64 q ∧ s = .string (tx (catK l q)) ∧ w3 = wr) (fun _ k _ => 8 - (intOf k).toNat)
  case atStart => exact ⟨0, by omega, rfl, rfl, rfl⟩
  case round =>
    obtain ⟨q, hq, rfl, rfl, rfl⟩ := hrel
    by_cases hq8 : q < 8
    · have c0 := hrow.out.cell (i := q) hq8
      have c : w3.cell? ⟨w2.heap.size, q, none⟩ = some (.string (tx (l.getD q []))) := c0
      clear c0
      have l1 := hk q (by omega)
      have l2 := hlen q hq8
      have happ := Lib.hid (tx_app (catK l q) (l.getD q []))
      have hq0 : (0 : Int) ≤ (q : Int) := by omega
      have hq7 : (q : Int) < 8 := by omega
      clear hk hlen
      generalize hxe : l.getD q [] = x at *
      generalize hye : catK l q = y at *
      replace hxe := Lib.hid hxe
      replace hye := Lib.hid hye
      go_wp2_with (fail)
      exact ⟨⟨q + 1, by omega, by go_num, by rw [happ.out, ← hxe.out, ← hye.out]; rfl, trivial⟩, by simp [intOf]; omega⟩
    · obtain rfl : q = 8 := by omega
      clear hk hlen
      generalize hye : catK l 8 = y at *
      go_wp2_with (fail)
      go_ret
      exact ⟨by rw [← hc8.out]; rfl, hB.out⟩
set_option maxRecDepth 100000 in
theorem san_long (L : List UInt8) (hs : 2147483647 < L.length) (W : World) :
    Calls Tryd.prog 3 #[.string (tx L)] W fun e w' => e = .returned (.bool true) ∧ Below W.heap.size W w' := by
  have hd : decide ((2147483647 : Int) < (L.length : Int)) = true := by simp; omega
  go_enter Tryd.func3, Tryd.ntmps3
  go_wp2
  go_ret
  exact ⟨rfl, Below.refl _ _⟩
set_option maxRecDepth 100000 in
theorem san_100 (L : List UInt8) (hs : L.length ≤ 2147483647) (h4 : 100 < L.length) (W : World) :
    Calls Tryd.prog 3 #[.string (tx L)] W fun e w' => e = .returned (.bool true) ∧ Below W.heap.size W w' := by
  have hd : decide ((2147483647 : Int) < (L.length : Int)) = false := by simp; omega
  have hd2 : decide ((100 : Int) < (L.length : Int)) = true := by simp; omega
  go_enter Tryd.func3, Tryd.ntmps3
  go_wp2
  go_ret
  exact ⟨rfl, Below.refl _ _⟩
theorem bytes_beq (x : ByteArray) : (x == x) = true := by
  have h : (x.data == x.data) = true := by simp
  exact h
theorem run_equalIn_strs (d : Nat) (l : List (List UInt8)) (w : World) :
    (Op.equalIn (d + 2) 22 (.agg (eight l)) (.agg (eight l))).run Tryd.prog w = .ok true w := by
  have hsz : ∀ w, (sizeOf 9).run Tryd.prog w = .ok 1 w := fun w => by kernel_rfl
  rw [Op.equalIn]
  simp only [Sem.run_bind, run_underlying Tryd.underlying22, Result.andThen_ok, hsz, Std.Legacy.Range.forIn_eq_forIn_range', Std.Legacy.Range.size, Nat.sub_zero, Nat.add_sub_cancel, Nat.div_one]
  have hl : ∀ i ∈ List.range' 0 8 1, i < 8 := fun i hi => by simpa using (List.mem_range'_1.1 hi).2
  generalize List.range' 0 8 1 = r at hl ⊢
  induction r with
  | nil => simp
  | cons i r ih =>
    have hi : i < 8 := hl i (by simp)
    have px : (part 9 (eight l) (i * 1)).run Tryd.prog w = .ok (eightF l i) w := by
      have hg := eight_get l i hi
      simp [part, isAgg, run_underlying Tryd.underlying9, hg]
    have pe : (Op.equalIn (d + 1) 9 (eightF l i) (eightF l i)).run Tryd.prog w = .ok true w := by
      simp [Op.equalIn, eightF, run_underlying Tryd.underlying9]
      first | exact beq_self_eq_true _ | exact ReflBEq.rfl | (show (BEq.beq _ _) = true; exact beq_iff_eq.2 rfl) | (exact bytes_beq _)
    simp only [List.forIn_cons, Sem.run_bind, px, pe, Result.andThen_ok]
    simp only [Bool.not_true, Bool.false_eq_true, if_false, Sem.run_pure, Result.andThen_ok]
    exact ih fun j hj => hl j (by simp [hj])
set_option maxRecDepth 100000 in
theorem san_no (L : List UInt8) (hL : L.length ≤ 100) (hR : ¬ ∃ l, SanR L (some l)) (W : World) (hE : TabE W) :
    Calls Tryd.prog 3 #[.string (tx L)] W fun e w' => e = .returned (.bool true) ∧ Below W.heap.size W w' := by
  have hd : decide ((2147483647 : Int) < (L.length : Int)) = false := by simp; omega
  have hd2 : decide ((100 : Int) < (L.length : Int)) = false := by simp; omega
  have h1 := Lib.hid (spParts_no L hL hR W)
  have h2 := Lib.hid (fun w (hb : Below W.heap.size W w) => show Calls Tryd.prog 7 #[.string (tx L)] w (fun e w' => e = .returned (.tuple #[.agg (eight []), .bool false]) ∧ Below w.heap.size w w') from (implParts_any L hL w (hE.below hb)).mono fun e w' ⟨⟨l, b, he, ho⟩, hb⟩ => by obtain ⟨rfl, rfl⟩ := outB_no hR ho; exact ⟨he, hb⟩)
  have h3 := Lib.hid (fun w (hb : Below W.heap.size W w) => show Calls Tryd.prog 8 #[.string (tx L)] w (fun e w' => e = .returned (.tuple #[.string (tx (cat8 [])), .bool false]) ∧ Below w.heap.size w w') from (implClean_any L hL w (hE.below hb)).mono fun e w' ⟨⟨l, b, he, ho⟩, hb⟩ => by obtain ⟨rfl, rfl⟩ := outB_no hR ho; exact ⟨he, hb⟩)
  have h4 := Lib.hid (fun w (hb : Below W.heap.size W w) => show Calls Tryd.prog 9 #[.string (tx L)] w (fun e w' => e = .returned (.bool false) ∧ Below w.heap.size w w') from (implValidate_any L hL w (hE.below hb)).mono fun e w' ⟨⟨l, b, he, ho⟩, hb⟩ => by obtain ⟨rfl, rfl⟩ := outB_no hR ho; exact ⟨he, hb⟩)
  clear hR hE
  generalize cat8 [] = z at *
  go_enter Tryd.func3, Tryd.ntmps3
  go_wp2_with (fail)
  refine h1.out.mono ?_
  rintro e w1 ⟨⟨l, rfl⟩, hb1⟩
  have hX1 := fun X => hb1.alloc hb1.size X
  replace hX1 := Lib.hid hX1
  unfold eight
  go_wp2_with (fail)
  refine (h2.out _ (hX1.out _)).mono ?_
  rintro e w2 ⟨rfl, hb2⟩
  have hB2 := (hX1.out _).trans (hb2.mono (hX1.out _).size)
  have hX2 := fun X => hB2.alloc hB2.size X
  replace hX2 := Lib.hid hX2
  clear hB2 hb2
  unfold eight
  go_wp2_with (fail)
  refine (h3.out _ (hX2.out _)).mono ?_
  rintro e w3 ⟨rfl, hb3⟩
  have hB3 := (hX2.out _).trans (hb3.mono (hX2.out _).size)
  replace hB3 := Lib.hid hB3
  clear hb3
  go_wp2_with (fail)
  refine (h4.out _ hB3.out).mono ?_
  rintro e w4 ⟨rfl, hb4⟩
  go_wp2_with (fail)
  go_ret
  exact ⟨rfl, hB3.out.trans (hb4.mono hB3.out.size)⟩
set_option maxRecDepth 100000 in
theorem san_yes (L : List UInt8) (hL : L.length ≤ 100) (l : List (List UInt8)) (hR : SanR L (some l)) (h8 : l.length = 8) (W : World) (hE : TabE W) :
    Calls Tryd.prog 3 #[.string (tx L)] W fun e w' => e = .returned (.bool true) ∧ Below W.heap.size W w' := by
  have hd : decide ((2147483647 : Int) < (L.length : Int)) = false := by simp; omega
  have hd2 : decide ((100 : Int) < (L.length : Int)) = false := by simp; omega
  have h1 := Lib.hid (spParts_yes L hL l hR W)
  have h2 := Lib.hid (fun w (hb : Below W.heap.size W w) => show Calls Tryd.prog 7 #[.string (tx L)] w (fun e w' => e = .returned (.tuple #[.agg (eight l), .bool true]) ∧ Below w.heap.size w w') from (implParts_any L hL w (hE.below hb)).mono fun e w' ⟨⟨l', b, he, ho⟩, hb⟩ => by obtain ⟨rfl, rfl⟩ := outB_yes hR ho; exact ⟨he, hb⟩)
  have h3 := Lib.hid (fun w (hb : Below W.heap.size W w) => show Calls Tryd.prog 8 #[.string (tx L)] w (fun e w' => e = .returned (.tuple #[.string (tx (cat8 l)), .bool true]) ∧ Below w.heap.size w w') from (implClean_any L hL w (hE.below hb)).mono fun e w' ⟨⟨l', b, he, ho⟩, hb⟩ => by obtain ⟨rfl, rfl⟩ := outB_yes hR ho; exact ⟨he, hb⟩)
  have h4 := Lib.hid (fun w (hb : Below W.heap.size W w) => show Calls Tryd.prog 9 #[.string (tx L)] w (fun e w' => e = .returned (.bool true) ∧ Below w.heap.size w w') from (implValidate_any L hL w (hE.below hb)).mono fun e w' ⟨⟨l', b, he, ho⟩, hb⟩ => by obtain ⟨rfl, rfl⟩ := outB_yes hR ho; exact ⟨he, hb⟩)
  have h5 := Lib.hid (fun w => spClean_yes L hL l hR h8 w)
  clear hR hE h8
  unfold eight at *
  generalize cat8 l = z at *
  generalize l.getD 0 [] = x0 at *
  generalize l.getD 1 [] = x1 at *
  generalize l.getD 2 [] = x2 at *
  generalize l.getD 3 [] = x3 at *
  generalize l.getD 4 [] = x4 at *
  generalize l.getD 5 [] = x5 at *
  generalize l.getD 6 [] = x6 at *
  generalize l.getD 7 [] = x7 at *
  go_enter Tryd.func3, Tryd.ntmps3
  go_wp2_with (fail)
  refine h1.out.mono ?_
  rintro e w1 ⟨rfl, hb1⟩
  have hX1 := fun X => hb1.alloc hb1.size X
  have hn1 := World.rowIs_alloc w1 #[.string (tx x0), .string (tx x1), .string (tx x2), .string (tx x3), .string (tx x4), .string (tx x5), .string (tx x6), .string (tx x7)] 22 (eightF [x0, x1, x2, x3, x4, x5, x6, x7]) (fun i hi => eight_get [x0, x1, x2, x3, x4, x5, x6, x7] i hi)
  replace hX1 := Lib.hid hX1
  replace hn1 := Lib.hid hn1
  go_wp2_with (fail)
  refine (h2.out _ (hX1.out _)).mono ?_
  rintro e w2 ⟨rfl, hb2⟩
  have hB2 := (hX1.out _).trans (hb2.mono (hX1.out _).size)
  have hn2 := rowIs_below hn1.out hb2 hn1.out.lt
  have hX2 := fun X => hB2.alloc hB2.size X
  have hn3 := fun X => hn2.alloc X
  have hg1 := hn2.lt
  have hm2 := World.rowIs_alloc w2 #[.string (tx x0), .string (tx x1), .string (tx x2), .string (tx x3), .string (tx x4), .string (tx x5), .string (tx x6), .string (tx x7)] 22 (eightF [x0, x1, x2, x3, x4, x5, x6, x7]) (fun i hi => eight_get [x0, x1, x2, x3, x4, x5, x6, x7] i hi)
  replace hX2 := Lib.hid hX2
  replace hn3 := Lib.hid hn3
  replace hm2 := Lib.hid hm2
  clear hB2 hb2 hn2 hn1
  go_wp2_with (fail)
  refine (h3.out _ (hX2.out _)).mono ?_
  rintro e w3 ⟨rfl, hb3⟩
  have hB3 := (hX2.out _).trans (hb3.mono (hX2.out _).size)
  have hn4 := rowIs_below (hn3.out _) hb3 (hn3.out _).lt
  have hm4 := rowIs_below hm2.out hb3 hm2.out.lt
  replace hB3 := Lib.hid hB3
  replace hn4 := Lib.hid hn4
  replace hm4 := Lib.hid hm4
  clear hb3 hn3 hm2
  go_wp2_with (fail)
  refine (h4.out _ hB3.out).mono ?_
  rintro e w4 ⟨rfl, hb4⟩
  have hn5 := rowIs_below hn4.out hb4 hn4.out.lt
  have hm5 := rowIs_below hm4.out hb4 hm4.out.lt
  have p0 : w4.cell? ⟨w1.heap.size, 0, none⟩ = some (.string (tx x0)) := hn5.cell (i := 0) (by show 0 < 8; omega)
  have q0 : w4.cell? ⟨w2.heap.size, 0, none⟩ = some (.string (tx x0)) := hm5.cell (i := 0) (by show 0 < 8; omega)
  have p1 : w4.cell? ⟨w1.heap.size, 1, none⟩ = some (.string (tx x1)) := hn5.cell (i := 1) (by show 1 < 8; omega)
  have q1 : w4.cell? ⟨w2.heap.size, 1, none⟩ = some (.string (tx x1)) := hm5.cell (i := 1) (by show 1 < 8; omega)
  have p2 : w4.cell? ⟨w1.heap.size, 2, none⟩ = some (.string (tx x2)) := hn5.cell (i := 2) (by show 2 < 8; omega)
  have q2 : w4.cell? ⟨w2.heap.size, 2, none⟩ = some (.string (tx x2)) := hm5.cell (i := 2) (by show 2 < 8; omega)
  have p3 : w4.cell? ⟨w1.heap.size, 3, none⟩ = some (.string (tx x3)) := hn5.cell (i := 3) (by show 3 < 8; omega)
  have q3 : w4.cell? ⟨w2.heap.size, 3, none⟩ = some (.string (tx x3)) := hm5.cell (i := 3) (by show 3 < 8; omega)
  have p4 : w4.cell? ⟨w1.heap.size, 4, none⟩ = some (.string (tx x4)) := hn5.cell (i := 4) (by show 4 < 8; omega)
  have q4 : w4.cell? ⟨w2.heap.size, 4, none⟩ = some (.string (tx x4)) := hm5.cell (i := 4) (by show 4 < 8; omega)
  have p5 : w4.cell? ⟨w1.heap.size, 5, none⟩ = some (.string (tx x5)) := hn5.cell (i := 5) (by show 5 < 8; omega)
  have q5 : w4.cell? ⟨w2.heap.size, 5, none⟩ = some (.string (tx x5)) := hm5.cell (i := 5) (by show 5 < 8; omega)
  have p6 : w4.cell? ⟨w1.heap.size, 6, none⟩ = some (.string (tx x6)) := hn5.cell (i := 6) (by show 6 < 8; omega)
  have q6 : w4.cell? ⟨w2.heap.size, 6, none⟩ = some (.string (tx x6)) := hm5.cell (i := 6) (by show 6 < 8; omega)
  have p7 : w4.cell? ⟨w1.heap.size, 7, none⟩ = some (.string (tx x7)) := hn5.cell (i := 7) (by show 7 < 8; omega)
  have q7 : w4.cell? ⟨w2.heap.size, 7, none⟩ = some (.string (tx x7)) := hm5.cell (i := 7) (by show 7 < 8; omega)
  have hB4 := hB3.out.trans (hb4.mono hB3.out.size)
  replace hB4 := Lib.hid hB4
  have heq : ∀ w, (Op.equalIn 10000 22 (.agg #[.string (tx x0), .string (tx x1), .string (tx x2), .string (tx x3), .string (tx x4), .string (tx x5), .string (tx x6), .string (tx x7)]) (.agg #[.string (tx x0), .string (tx x1), .string (tx x2), .string (tx x3), .string (tx x4), .string (tx x5), .string (tx x6), .string (tx x7)])).run Tryd.prog w = .ok true w := fun w => run_equalIn_strs 9998 [x0, x1, x2, x3, x4, x5, x6, x7] w
  clear hn5 hm5 hn4 hm4 hb4
  go_wp2_with (go_at_call 10; refine (h5.out _).mono ?_; rintro e w5 ⟨rfl, hb5⟩)
  go_ret
  exact ⟨rfl, hB4.out.trans (hb5.mono hB4.out.size)⟩
end Go.Proofs.YtkbbncobgmepbaaDoor

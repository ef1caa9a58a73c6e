/- The law FnUciText. -/
import Derived.Test.YtoigijloeillbaaDoorUcD
import Derived.Test.YtoigijloeillbaaDoorUcE
namespace Go.Proofs.YtoigijloeillbaaDoor
open Go.ChangeShapes Go.WideShapes Go.ChangeAt Go.RowKit Go.PlainAid
set_option maxHeartbeats 1000000
set_option linter.unusedVariables false
set_option linter.unusedSimpArgs false
attribute [local go_sem] tx_list tx_size bt_tx

theorem readT_any (a b q : Int) (ha : 0 ≤ a ∧ a < 64) (hb : 0 ≤ b ∧ b < 64) (hq : q = 0 ∨ 2 ≤ q ∧ q ≤ 5) (w : World) :
    Calls Tryd.prog 10 #[.string (tx (sqS a ++ sqS b ++ prS q))] w fun e w' => e = .returned (.tuple #[mv3 a b q, .bool true]) ∧ Below w.heap.size w w' := by
  refine implRead_yes _ a b q ha hb (by omega) (fun w => ?_) w
  have e1 : a % 8 + 8 * (a / 8) = a := by omega
  have e2 : b % 8 + 8 * (b / 8) = b := by omega
  have : q = 0 ∨ q = 2 ∨ q = 3 ∨ q = 4 ∨ q = 5 := by omega
  rcases this with rfl | rfl | rfl | rfl | rfl
  · have h := decode_t4 (a % 8) (a / 8) (b % 8) (b / 8) (by omega) (by omega) (by omega) (by omega) w
    rw [e1, e2] at h
    exact h
  · have h := decode_t5 (a % 8) (a / 8) (b % 8) (b / 8) 4 2 (by omega) (by omega) (by omega) (by omega) (by omega) (by omega) w
    rw [e1, e2] at h
    exact h
  · have h := decode_t5 (a % 8) (a / 8) (b % 8) (b / 8) 3 3 (by omega) (by omega) (by omega) (by omega) (by omega) (by omega) w
    rw [e1, e2] at h
    exact h
  · have h := decode_t5 (a % 8) (a / 8) (b % 8) (b / 8) 2 4 (by omega) (by omega) (by omega) (by omega) (by omega) (by omega) w
    rw [e1, e2] at h
    exact h
  · have h := decode_t5 (a % 8) (a / 8) (b % 8) (b / 8) 1 5 (by omega) (by omega) (by omega) (by omega) (by omega) (by omega) w
    rw [e1, e2] at h
    exact h
theorem read_short (L : List UInt8) (hL : L.length ≤ 100) (h : L.length ≠ 4 ∧ L.length ≠ 5) (w : World) :
    Calls Tryd.prog 10 #[.string (tx L)] w fun e w' => e = .returned (.tuple #[mv3 0 0 0, .bool false]) ∧ Below w.heap.size w w' :=
  implRead_no L (fun w => decode_len L (by omega) (by omega) w) w
theorem read_sq (L : List UInt8) (hL : L.length = 4 ∨ L.length = 5) (h : isSq (bi L 0) (bi L 1) = false) (w : World) :
    Calls Tryd.prog 10 #[.string (tx L)] w fun e w' => e = .returned (.tuple #[mv3 0 0 0, .bool false]) ∧ Below w.heap.size w w' := by
  refine implRead_no L (fun w => ?_) w
  by_cases h1 : bi L 0 < 97 ∨ 104 < bi L 0
  · exact decode_file L (by omega) (by omega) h1 w
  · refine decode_rank L (by omega) (by omega) (by omega) (by omega) ?_ w
    unfold isSq at h
    simp only [Bool.and_eq_false_iff, decide_eq_false_iff_not] at h
    omega
theorem q2_sq2 {L : List UInt8} (h2 : isSq (bi L 2) (bi L 3) = true) : sq2 L = q2 L ∧ 0 ≤ q2 L ∧ q2 L < 64 := by
  have := sqYes_of h2
  unfold sq2 q2
  rw [show (bi L 2 - 97 + (bi L 3 - 49) % 256 * 8) % 256 = bi L 2 - 97 + (bi L 3 - 49) * 8 by omega, wrap_small _ (by omega) (by omega)]
  omega
theorem sq1_rng {L : List UInt8} (h : isSq (bi L 0) (bi L 1) = true) : 0 ≤ sq1 L ∧ sq1 L < 64 := by
  have := sqYes_of h
  unfold sq1
  omega
theorem read_nop (L : List UInt8) (h : isSq (bi L 0) (bi L 1) = true) (h2 : isSq (bi L 2) (bi L 3) = true) (hl : L.length = 5) (hp : pmap (bi L 4) = 0) (w : World) :
    Calls Tryd.prog 10 #[.string (tx L)] w fun e w' => e = .returned (.tuple #[mv3 0 0 0, .bool false]) ∧ Below w.heap.size w w' := by
  have h1 := sqYes_of h
  have h3 := q2_sq2 h2
  exact implRead_no L (fun w => decode_nop L (by omega) (by omega) (by omega) (by omega) (by omega) (by omega) (by omega) hl hp w) w
theorem read_four (L : List UInt8) (h : isSq (bi L 0) (bi L 1) = true) (h2 : isSq (bi L 2) (bi L 3) = true) (hl : L.length = 4) (w : World) :
    Calls Tryd.prog 10 #[.string (tx L)] w fun e w' => e = .returned (.tuple #[mv3 (sq1 L) (q2 L) 0, .bool true]) ∧ Below w.heap.size w w' := by
  have h1 := sqYes_of h
  have h3 := q2_sq2 h2
  refine implRead_yes L (sq1 L) (q2 L) 0 (sq1_rng h) h3.2 (by omega) (fun w => ?_) w
  have hd := decode_four L (by omega) (by omega) (by omega) (by omega) (by omega) (by omega) (by omega) hl w
  unfold UGood at hd
  rw [h3.1] at hd
  exact hd
theorem read_five (L : List UInt8) (h : isSq (bi L 0) (bi L 1) = true) (h2 : isSq (bi L 2) (bi L 3) = true) (hl : L.length = 5) (hp : pmap (bi L 4) ≠ 0) (w : World) :
    Calls Tryd.prog 10 #[.string (tx L)] w fun e w' => e = .returned (.tuple #[mv3 (sq1 L) (q2 L) (pmap (bi L 4)), .bool true]) ∧ Below w.heap.size w w' := by
  have h1 := sqYes_of h
  have h3 := q2_sq2 h2
  have hv := pmap_val (bi L 4)
  refine implRead_yes L (sq1 L) (q2 L) (pmap (bi L 4)) (sq1_rng h) h3.2 (by omega) (fun w => ?_) w
  have hd := decode_five L (by omega) (by omega) (by omega) (by omega) (by omega) (by omega) (by omega) hl hp w
  unfold UGood at hd
  rw [h3.1] at hd
  exact hd
theorem specUci_any (a b q : Int) (ha : 0 ≤ a ∧ a < 64) (hb : 0 ≤ b ∧ b < 64) (hq : q = 0 ∨ 2 ≤ q ∧ q ≤ 5) (w : World) :
    Calls Tryd.prog 11 #[mv3 a b q] w fun e w' => e = .returned (.string (tx (sqS a ++ sqS b ++ prS q))) ∧ Below w.heap.size w w' := by
  have : q = 0 ∨ q = 2 ∨ q = 3 ∨ q = 4 ∨ q = 5 := by omega
  rcases this with rfl | rfl | rfl | rfl | rfl
  · exact specUci_0 a b ha hb w
  · exact specUci_1 a b ha hb w
  · exact specUci_2 a b ha hb w
  · exact specUci_3 a b ha hb w
  · exact specUci_4 a b ha hb w
set_option maxRecDepth 100000 in
theorem uciText_long (x y z : Int) (L : List UInt8) (hL : 100 < L.length) (W : World) :
    Calls Tryd.prog 5 #[mv3 x y z, .string (tx L)] W fun e w' => e = .returned (.bool true) ∧ Below W.heap.size W w' := by
  have hd : decide ((2147483647 : Int) < (L.length : Int)) = true ∨ (decide ((2147483647 : Int) < (L.length : Int)) = false ∧ decide ((100 : Int) < (L.length : Int)) = true) := by
    simp only [decide_eq_true_eq, decide_eq_false_iff_not]; omega
  unfold mv3
  rcases hd with d | ⟨d, d2⟩
  all_goals
    go_enter Tryd.func5, Tryd.ntmps5
    go_wp2
    go_ret
    exact ⟨rfl, (Below.refl _ _).alloc (Nat.le_refl _) _⟩
/-- That a move is none between two squares, or becomes what a pawn does not become: as the walk finds it. -/
def MvNo (x y z : Int) : Prop := decide (0 ≤ x) = false ∨ (decide (0 ≤ x) = true ∧ decide (x < 64) = false) ∨ (decide (0 ≤ x) = true ∧ decide (x < 64) = true ∧ decide (0 ≤ y) = false) ∨ (decide (0 ≤ x) = true ∧ decide (x < 64) = true ∧ decide (0 ≤ y) = true ∧ decide (y < 64) = false) ∨ (decide (0 ≤ x) = true ∧ decide (x < 64) = true ∧ decide (0 ≤ y) = true ∧ decide (y < 64) = true ∧ (z == 0) = false ∧ decide (1 < z) = false) ∨ (decide (0 ≤ x) = true ∧ decide (x < 64) = true ∧ decide (0 ≤ y) = true ∧ decide (y < 64) = true ∧ (z == 0) = false ∧ decide (1 < z) = true ∧ decide (z < 6) = false)
theorem mvNo_of {x y z : Int} (h : ¬ ((0 ≤ x ∧ x < 64) ∧ (0 ≤ y ∧ y < 64) ∧ (z = 0 ∨ 2 ≤ z ∧ z ≤ 5))) : MvNo x y z := by
  unfold MvNo
  simp only [decide_eq_true_eq, decide_eq_false_iff_not, beq_eq_false_iff_ne]
  omega
theorem mid_len (L : List UInt8) (h : 4 ≤ L.length) : (mid L 2 4).length = 2 := by unfold mid; simp; omega
theorem mid_bi (L : List UInt8) (k : Nat) (hk : k < 2) (h : 4 ≤ L.length) : bi (mid L 2 4) k = bi L (2 + k) := by
  unfold bi mid
  congr 2
  rw [List.getD_eq_getElem?_getD, List.getD_eq_getElem?_getD, List.getElem?_drop, List.getElem?_take_of_lt (by omega)]
theorem midSq_any (L : List UInt8) (h : 4 ≤ L.length) (w : World) :
    Calls Tryd.prog 13 #[.string (tx (mid L 2 4))] w fun e w' => e = .returned (.bool (isSq (bi L 2) (bi L 3))) ∧ w = w' := by
  have := uciSquare_any (mid L 2 4) (mid_len L h) w
  rw [mid_bi L 0 (by omega) h, mid_bi L 1 (by omega) h] at this
  exact this
def SplitsAs (L : List UInt8) (a b p : Int) (r : Bool) : Prop := ∀ w, Calls Tryd.prog 12 #[.string (tx L)] w fun e w' => e = .returned (.tuple #[mv3 a b p, .bool r]) ∧ Below w.heap.size w w'
def ReadsAs (L : List UInt8) (a b p : Int) (r : Bool) : Prop := ∀ w, Calls Tryd.prog 10 #[.string (tx L)] w fun e w' => e = .returned (.tuple #[mv3 a b p, .bool r]) ∧ Below w.heap.size w w'
/-- How a text is read by both. -/
def TextIs (L : List UInt8) : Prop :=
  (∃ a b p, SplitsAs L a b p true ∧ ReadsAs L a b p true) ∨
  (SplitsAs L 0 0 0 false ∧ ReadsAs L 0 0 0 false ∧ ((L.length : Int) == 4) = false ∧ ((L.length : Int) == 5) = false) ∨
  (SplitsAs L 0 0 0 false ∧ (((L.length : Int) == 4) = true ∨ ((L.length : Int) == 4) = false ∧ ((L.length : Int) == 5) = true) ∧ 4 ≤ L.length ∧ isSq (bi L 2) (bi L 3) = false) ∨
  (SplitsAs L 0 0 0 false ∧ (((L.length : Int) == 4) = true ∨ ((L.length : Int) == 4) = false ∧ ((L.length : Int) == 5) = true) ∧ 4 ≤ L.length ∧ isSq (bi L 2) (bi L 3) = true ∧ ReadsAs L 0 0 0 false)
theorem textIs (L : List UInt8) (hL : L.length ≤ 100) : TextIs L := by
  unfold TextIs
  by_cases h45 : L.length = 4 ∨ L.length = 5
  · have hlen : ((L.length : Int) == 4) = true ∨ ((L.length : Int) == 4) = false ∧ ((L.length : Int) == 5) = true := by
      simp only [beq_iff_eq, beq_eq_false_iff_ne]; omega
    cases h1 : isSq (bi L 0) (bi L 1)
    · cases h2 : isSq (bi L 2) (bi L 3)
      · exact .inr (.inr (.inl ⟨split_0 L h45 h1, hlen, by omega, rfl⟩))
      · exact .inr (.inr (.inr ⟨split_0 L h45 h1, hlen, by omega, rfl, read_sq L h45 h1⟩))
    · cases h2 : isSq (bi L 2) (bi L 3)
      · exact .inr (.inr (.inl ⟨split_1 L h45 h1 h2, hlen, by omega, rfl⟩))
      · by_cases h4 : L.length = 4
        · exact .inl ⟨_, _, _, split_2 L h1 h2 h4, read_four L h1 h2 h4⟩
        · by_cases hp : pmap (bi L 4) = 0
          · exact .inr (.inr (.inr ⟨split_3 L h1 h2 (by omega) hp, hlen, by omega, rfl, read_nop L h1 h2 (by omega) hp⟩))
          · exact .inl ⟨_, _, _, split_4 L h1 h2 (by omega) hp, read_five L h1 h2 (by omega) hp⟩
  · exact .inr (.inl ⟨split_len L (by omega) (by omega) (by omega), read_short L hL (by omega), by simp; omega, by simp; omega⟩)
set_option maxRecDepth 100000 in
theorem uciText_main (x y z : Int) (hm : ((0 ≤ x ∧ x < 64) ∧ (0 ≤ y ∧ y < 64) ∧ (z = 0 ∨ 2 ≤ z ∧ z ≤ 5)) ∨ MvNo x y z) (L : List UInt8) (hL : L.length ≤ 100) (W : World) :
    Calls Tryd.prog 5 #[mv3 x y z, .string (tx L)] W fun e w' => e = .returned (.bool true) ∧ Below W.heap.size W w' := by
  have hT := Lib.hid (textIs L hL)
  have d : decide ((2147483647 : Int) < (L.length : Int)) = false := by simp; omega
  have d2 : decide ((100 : Int) < (L.length : Int)) = false := by simp; omega
  have hB : Below W.heap.size W (W.alloc (.cells #[.int .i64 x, .int .i64 y, .int .i64 z] 25)) := (Below.refl _ _).alloc (Nat.le_refl _) _
  have hr := row_lit W #[.int .i64 x, .int .i64 y, .int .i64 z] 25
  unfold mv3
  go_enter Tryd.func5, Tryd.ntmps5
  go_upto_region 5 with (fail)
  go_cut [51] from 19 to 50 (fun v wx => ∃ bv : Bool, v = .bool bv ∧ (bv = true → (0 ≤ x ∧ x < 64) ∧ (0 ≤ y ∧ y < 64) ∧ (z = 0 ∨ 2 ≤ z ∧ z ≤ 5)) ∧ wx = W.alloc (.cells #[.int .i64 x, .int .i64 y, .int .i64 z] 25))
  case first =>
    clear hT hr hB
    rcases hm with ⟨hx, hy, hz⟩ | hm
    · have f1 : decide (0 ≤ x) = true := by simpa using hx.1
      have f2 : decide (x < 64) = true := by simpa using hx.2
      have f3 : decide (0 ≤ y) = true := by simpa using hy.1
      have f4 : decide (y < 64) = true := by simpa using hy.2
      have f5 : (z == 0) = true ∨ ((z == 0) = false ∧ decide (1 < z) = true ∧ decide (z < 6) = true) := by
        simp only [beq_iff_eq, beq_eq_false_iff_ne, decide_eq_true_eq]; omega
      have hv := Lib.hid (And.intro hx (And.intro hy hz))
      clear hx hy hz
      rcases f5 with f5 | ⟨f5, f6, f7⟩
      all_goals
        go_wp2_with (fail)
        go_meet
        exact ⟨true, rfl, fun _ => hv.out, rfl⟩
    · rcases hm with f1 | ⟨f1, f2⟩ | ⟨f1, f2, f3⟩ | ⟨f1, f2, f3, f4⟩ | ⟨f1, f2, f3, f4, f5, f6⟩ | ⟨f1, f2, f3, f4, f5, f6, f7⟩
      all_goals
        go_wp2_with (fail)
        go_meet
        exact ⟨false, rfl, by simp, rfl⟩
  case rest =>
  obtain ⟨bv, rfl, hbv, rfl⟩ := hcut
  clear hm
  go_upto_if 51 with (fail)
  go_cut [] from 5 to 78 (fun wx => Below W.heap.size W wx)
  case first =>
    cases bv
    · clear hT hbv
      go_wp2_with (fail)
      go_meet
      exact hB
    · obtain ⟨hx, hy, hz⟩ := hbv rfl
      have c1 := Lib.hid (implText_any x y z hx hy hz)
      have c2 := Lib.hid (specUci_any x y z hx hy hz)
      have c3 := Lib.hid (readT_any x y z hx hy hz)
      unfold mv3 at c1 c2 c3
      generalize sqS x ++ sqS y ++ prS z = T at *
      clear hx hy hz hT hbv
      generalize (W.alloc (.cells #[.int .i64 x, .int .i64 y, .int .i64 z] 25)) = w1 at *
      have v0 : w1.cell? ⟨W.heap.size, 0, none⟩ = some (.int .i64 x) := hr.cell (i := 0) (by simp)
      have v1 : w1.cell? ⟨W.heap.size, 1, none⟩ = some (.int .i64 y) := hr.cell (i := 1) (by simp)
      have v2 : w1.cell? ⟨W.heap.size, 2, none⟩ = some (.int .i64 z) := hr.cell (i := 2) (by simp)
      all_goals
        go_wp2_with (fail)
        refine (c1.out _).mono ?_
        rintro e w2 ⟨rfl, hb2⟩
        replace hr := rowIs_below hr hb2 hr.lt
        replace hB := hB.trans (hb2.mono hB.size)
        go_wp2_with (fail)
        refine (c3.out _).mono ?_
        rintro e w3 ⟨rfl, hb3⟩
        replace hr := rowIs_below hr hb3 hr.lt
        replace hB := hB.trans (hb3.mono hB.size)
        have m1 := row_lit w3 #[.int .i64 x, .int .i64 y, .int .i64 z] 25
        have m2 := hr.alloc (.cells #[.int .i64 x, .int .i64 y, .int .i64 z] 25)
        have mB := hB.alloc hB.size (.cells #[.int .i64 x, .int .i64 y, .int .i64 z] 25)
        clear hb2 hb3 hr hB v0 v1 v2
        go_upto_region 8 with (fail)
        generalize (w3.alloc (.cells #[.int .i64 x, .int .i64 y, .int .i64 z] 25)) = w4 at *
        have v0 : w4.cell? ⟨W.heap.size, 0, none⟩ = some (.int .i64 x) := m2.cell (i := 0) (by simp)
        have v1 : w4.cell? ⟨W.heap.size, 1, none⟩ = some (.int .i64 y) := m2.cell (i := 1) (by simp)
        have v2 : w4.cell? ⟨W.heap.size, 2, none⟩ = some (.int .i64 z) := m2.cell (i := 2) (by simp)
        go_wp2_with (fail)
        refine (c2.out _).mono ?_
        rintro e w5 ⟨rfl, hb5⟩
        replace m1 := rowIs_below m1 hb5 m1.lt
        replace m2 := rowIs_below m2 hb5 m2.lt
        have nB := mB.trans (hb5.mono mB.size)
        replace v0 : w5.cell? ⟨W.heap.size, 0, none⟩ = some (.int .i64 x) := m2.cell (i := 0) (by simp)
        replace v1 : w5.cell? ⟨W.heap.size, 1, none⟩ = some (.int .i64 y) := m2.cell (i := 1) (by simp)
        replace v2 : w5.cell? ⟨W.heap.size, 2, none⟩ = some (.int .i64 z) := m2.cell (i := 2) (by simp)
        have u0 : w5.cell? ⟨w3.heap.size, 0, none⟩ = some (.int .i64 x) := m1.cell (i := 0) (by simp)
        have u1 : w5.cell? ⟨w3.heap.size, 1, none⟩ = some (.int .i64 y) := m1.cell (i := 1) (by simp)
        have u2 : w5.cell? ⟨w3.heap.size, 2, none⟩ = some (.int .i64 z) := m1.cell (i := 2) (by simp)
        clear m1 m2 mB hb5
        replace nB := Lib.hid nB
        go_wp2_with (fail)
        go_meet
        exact nB.out
  case rest =>
    clear hr hB hbv
    have hsl : 4 ≤ L.length → ∀ w, (Instr.slice 9 (.string (tx L)) (some (.int .i64 2)) (some (.int .i64 4)) none).run Tryd.prog w = .ok (.string (tx (mid L 2 4))) w := fun h w => slice_mid L 2 4 (by omega) h w
    rcases hT.out with ⟨a, b, p, h1, h2⟩ | ⟨h1, h2, h4, h5⟩ | ⟨h1, h45, h4, h6⟩ | ⟨h1, h45, h4, h6, h2⟩
    · clear hT hsl
      unfold SplitsAs mv3 at h1
      unfold ReadsAs mv3 at h2
      replace h1 := Lib.hid h1
      replace h2 := Lib.hid h2
      replace hcut := Lib.hid hcut
      go_wp2_with (fail)
      refine (h1.out _).mono ?_
      rintro e w2 ⟨rfl, hb2⟩
      have m1 := row_lit w2 #[.int .i64 a, .int .i64 b, .int .i64 p] 25
      have mB := (hcut.out.trans (hb2.mono hcut.out.size)).alloc (hcut.out.trans (hb2.mono hcut.out.size)).size (.cells #[.int .i64 a, .int .i64 b, .int .i64 p] 25)
      go_upto_region 11 with (fail)
      generalize (w2.alloc (.cells #[.int .i64 a, .int .i64 b, .int .i64 p] 25)) = w3 at *
      replace mB := Lib.hid mB
      go_wp2_with (fail)
      refine (h2.out _).mono ?_
      rintro e w4 ⟨rfl, hb4⟩
      have n1 := (rowIs_below m1 hb4 m1.lt).alloc (.cells #[.int .i64 a, .int .i64 b, .int .i64 p] 25)
      have n2 := row_lit w4 #[.int .i64 a, .int .i64 b, .int .i64 p] 25
      have nB := (mB.out.trans (hb4.mono mB.out.size)).alloc (mB.out.trans (hb4.mono mB.out.size)).size (.cells #[.int .i64 a, .int .i64 b, .int .i64 p] 25)
      go_upto_region 14 with (fail)
      generalize (w4.alloc (.cells #[.int .i64 a, .int .i64 b, .int .i64 p] 25)) = w5 at *
      have v0 : w5.cell? ⟨w2.heap.size, 0, none⟩ = some (.int .i64 a) := n1.cell (i := 0) (by simp)
      have v1 : w5.cell? ⟨w2.heap.size, 1, none⟩ = some (.int .i64 b) := n1.cell (i := 1) (by simp)
      have v2 : w5.cell? ⟨w2.heap.size, 2, none⟩ = some (.int .i64 p) := n1.cell (i := 2) (by simp)
      have u0 : w5.cell? ⟨w4.heap.size, 0, none⟩ = some (.int .i64 a) := n2.cell (i := 0) (by simp)
      have u1 : w5.cell? ⟨w4.heap.size, 1, none⟩ = some (.int .i64 b) := n2.cell (i := 1) (by simp)
      have u2 : w5.cell? ⟨w4.heap.size, 2, none⟩ = some (.int .i64 p) := n2.cell (i := 2) (by simp)
      clear n1 n2 m1 hb2 hb4
      replace nB := Lib.hid nB
      go_wp2_with (fail)
      go_ret
      exact ⟨rfl, nB.out⟩
    · clear hT hsl
      unfold SplitsAs mv3 at h1
      unfold ReadsAs mv3 at h2
      replace h1 := Lib.hid h1
      replace h2 := Lib.hid h2
      replace hcut := Lib.hid hcut
      go_wp2_with (fail)
      refine (h1.out _).mono ?_
      rintro e w2 ⟨rfl, hb2⟩
      have mB := Lib.hid ((hcut.out.trans (hb2.mono hcut.out.size)).alloc (hcut.out.trans (hb2.mono hcut.out.size)).size (.cells #[.int .i64 0, .int .i64 0, .int .i64 0] 25))
      go_wp2_with (fail)
      refine (h2.out _).mono ?_
      rintro e w4 ⟨rfl, hb4⟩
      have nB := Lib.hid ((mB.out.trans (hb4.mono mB.out.size)).alloc (mB.out.trans (hb4.mono mB.out.size)).size (.cells #[.int .i64 0, .int .i64 0, .int .i64 0] 25))
      clear hb2 hb4
      go_wp2_with (fail)
      go_ret
      exact ⟨rfl, nB.out⟩
    · have hsl4 := hsl h4
      clear hT hsl
      have hsq := midSq_any L h4
      rw [h6] at hsq
      unfold SplitsAs mv3 at h1
      replace h1 := Lib.hid h1
      replace hsq := Lib.hid hsq
      replace hcut := Lib.hid hcut
      rcases h45 with l4 | ⟨l4, l5⟩
      all_goals
        go_wp2_with (fail)
        refine (h1.out _).mono ?_
        rintro e w2 ⟨rfl, hb2⟩
        have mB := Lib.hid ((hcut.out.trans (hb2.mono hcut.out.size)).alloc (hcut.out.trans (hb2.mono hcut.out.size)).size (.cells #[.int .i64 0, .int .i64 0, .int .i64 0] 25))
        clear hb2
        go_wp2_with (go_at_call 13; refine (hsq.out _).mono ?_; rintro e w3 ⟨rfl, rfl⟩)
        go_ret
        exact ⟨rfl, mB.out⟩
    · have hsl4 := hsl h4
      clear hT hsl
      have hsq := midSq_any L h4
      rw [h6] at hsq
      unfold SplitsAs mv3 at h1
      unfold ReadsAs mv3 at h2
      replace h1 := Lib.hid h1
      replace h2 := Lib.hid h2
      replace hsq := Lib.hid hsq
      replace hcut := Lib.hid hcut
      rcases h45 with l4 | ⟨l4, l5⟩
      all_goals
        go_wp2_with (fail)
        refine (h1.out _).mono ?_
        rintro e w2 ⟨rfl, hb2⟩
        have mB := Lib.hid ((hcut.out.trans (hb2.mono hcut.out.size)).alloc (hcut.out.trans (hb2.mono hcut.out.size)).size (.cells #[.int .i64 0, .int .i64 0, .int .i64 0] 25))
        clear hb2
        go_wp2_with (go_at_call 13; refine (hsq.out _).mono ?_; rintro e w3 ⟨rfl, rfl⟩)
        refine (h2.out _).mono ?_
        rintro e w4 ⟨rfl, hb4⟩
        have nB := Lib.hid ((mB.out.trans (hb4.mono mB.out.size)).alloc (mB.out.trans (hb4.mono mB.out.size)).size (.cells #[.int .i64 0, .int .i64 0, .int .i64 0] 25))
        clear hb4
        go_wp2_with (fail)
        go_ret
        exact ⟨rfl, nB.out⟩
end Go.Proofs.YtoigijloeillbaaDoor

/- A book's move in plain data: the contract of impl.PolyMove; the law FnPoMove. -/
import Derived.Test.YtoigijloeillbaaDoorPoC
namespace Go.Proofs.YtoigijloeillbaaDoor
open Go.ChangeShapes Go.WideShapes Go.ChangeAt Go.RowKit Go.PlainAid
set_option maxHeartbeats 1000000
set_option linter.unusedVariables false
set_option linter.unusedSimpArgs false
attribute [local go_sem] tx_list tx_size bt_tx

theorem mvV_lit (x y q : Int) : mvV x y q = .agg #[Value.pointer none, Value.pointer none, Value.string ⟨#[]⟩, Value.string ⟨#[]⟩, Value.map none, Value.slice none 0 0, Value.int .u64 0, Value.int .u16 0, Value.int .i8 x, Value.int .i8 y, Value.int .i8 q] := rfl
theorem toMove_any (a b c d p : Int) (ha : 0 ≤ a ∧ a < 8) (hb : 0 ≤ b ∧ b < 8) (hc : 0 ≤ c ∧ c < 8) (hd : 0 ≤ d ∧ d < 8) (hp : 0 ≤ p ∧ p ≤ 4) (w : World) :
    Calls Tryd.prog 15 #[polyV a b c d p false] w fun e w' => e = .returned (mvV (a + 8 * b) (c + 8 * d) (kindP p)) ∧ Below w.heap.size w w' := by
  have : p = 0 ∨ p = 1 ∨ p = 2 ∨ p = 3 ∨ p = 4 := by omega
  rcases this with rfl | rfl | rfl | rfl | rfl
  · exact toMove_0 a b c d ha hb hc hd w
  · exact toMove_1 a b c d ha hb hc hd w
  · exact toMove_2 a b c d ha hb hc hd w
  · exact toMove_3 a b c d ha hb hc hd w
  · exact toMove_4 a b c d ha hb hc hd w
theorem get0_any (g : Nat) (a b p t : Int) (w : World) (hm : w.rowIs g 53 11 (mvF a b p t)) :
    Calls Tryd.prog 31 #[.pointer (some ⟨g, 0, none⟩)] w fun e w' => e = .returned (.int .i8 a) ∧ w = w' := by
  have hc : w.cell? ⟨g, 8, none⟩ = some (.int .i8 a) := hm.cell (i := 8) (by omega)
  go_enter Tryd.func31, Tryd.ntmps31
  go_wp2
  go_ret
  exact ⟨rfl, rfl⟩
theorem get1_any (g : Nat) (a b p t : Int) (w : World) (hm : w.rowIs g 53 11 (mvF a b p t)) :
    Calls Tryd.prog 32 #[.pointer (some ⟨g, 0, none⟩)] w fun e w' => e = .returned (.int .i8 b) ∧ w = w' := by
  have hc : w.cell? ⟨g, 9, none⟩ = some (.int .i8 b) := hm.cell (i := 9) (by omega)
  go_enter Tryd.func32, Tryd.ntmps32
  go_wp2
  go_ret
  exact ⟨rfl, rfl⟩
theorem get2_any (g : Nat) (a b p t : Int) (w : World) (hm : w.rowIs g 53 11 (mvF a b p t)) :
    Calls Tryd.prog 33 #[.pointer (some ⟨g, 0, none⟩)] w fun e w' => e = .returned (.int .i8 p) ∧ w = w' := by
  have hc : w.cell? ⟨g, 10, none⟩ = some (.int .i8 p) := hm.cell (i := 10) (by omega)
  go_enter Tryd.func33, Tryd.ntmps33
  go_wp2
  go_ret
  exact ⟨rfl, rfl⟩
theorem tags_any (g : Nat) (a b p t : Int) (w : World) (hm : w.rowIs g 53 11 (mvF a b p t)) :
    Calls Tryd.prog 17 #[.pointer (some ⟨g, 0, none⟩)] w fun e w' => e = .returned (.int .u16 t) ∧ w = w' := by
  have hc : w.cell? ⟨g, 7, none⟩ = some (.int .u16 t) := hm.cell (i := 7) (by omega)
  go_enter Tryd.func17, Tryd.ntmps17
  go_wp2
  go_ret
  exact ⟨rfl, rfl⟩
/-- A move in plain data. -/
def mv3 (a b p : Int) : Value := .agg #[.int .i64 a, .int .i64 b, .int .i64 p]
theorem plainMove_any (g : Nat) (a b p t : Int) (ha : 0 ≤ a ∧ a < 64) (hb : 0 ≤ b ∧ b < 64) (hp : 0 ≤ p ∧ p < 64) (w : World) (hm : w.rowIs g 53 11 (mvF a b p t)) :
    Calls Tryd.prog 16 #[.pointer (some ⟨g, 0, none⟩)] w fun e w' => e = .returned (mv3 a b p) ∧ Below w.heap.size w w' := by
  have hm1 := hm.alloc (.cells #[.int .i64 0, .int .i64 0, .int .i64 0] 25)
  have h0 := Lib.hid (get0_any g a b p t _ hm1)
  have h1 := Lib.hid (get1_any g a b p t _ hm1)
  have h2 := Lib.hid (get2_any g a b p t _ hm1)
  clear hm hm1
  go_enter Tryd.func16, Tryd.ntmps16
  go_wp2_with (first
    | (go_at_call 31; refine h0.out.mono ?_; rintro e w1 ⟨rfl, rfl⟩)
    | (go_at_call 32; refine h1.out.mono ?_; rintro e w1 ⟨rfl, rfl⟩)
    | (go_at_call 33; refine h2.out.mono ?_; rintro e w1 ⟨rfl, rfl⟩))
  exact bodyPost_ret (v := mv3 a b p) (by simp [results, Tryd.results16, go_sem, mv3]) rfl ⟨rfl, (Below.refl _ _).alloc (Nat.le_refl _) _⟩
set_option maxRecDepth 100000 in
theorem polyMove_any (a b c d p : Int) (ha : 0 ≤ a ∧ a < 8) (hb : 0 ≤ b ∧ b < 8) (hc : 0 ≤ c ∧ c < 8) (hd : 0 ≤ d ∧ d < 8) (hp : 0 ≤ p ∧ p ≤ 4) (w : World) :
    Calls Tryd.prog 6 #[polyV a b c d p false] w fun e w' => e = .returned (.tuple #[mv3 (a + 8 * b) (c + 8 * d) (kindP p), .int .i64 0]) ∧ Below w.heap.size w w' := by
  have hk : 0 ≤ kindP p ∧ kindP p < 64 := by unfold kindP; split <;> omega
  have hto := Lib.hid (toMove_any a b c d p ha hb hc hd hp)
  have hpo := Lib.hid (poly_any a b c d p false)
  have k0 : Below w.heap.size w ((w.alloc (.cells #[.int .i64 a, .int .i64 b, .int .i64 c, .int .i64 d, .int .i64 p, .bool false] 29)).alloc (.cells #[.int .i64 0, .int .i64 0, .int .i64 0] 25)) := ((Below.refl _ _).alloc (Nat.le_refl _) _).alloc (by simp) _
  have k1 := row_lit (w.alloc (.cells #[.int .i64 a, .int .i64 b, .int .i64 c, .int .i64 d, .int .i64 p, .bool false] 29)) #[.int .i64 0, .int .i64 0, .int .i64 0] 25
  rw [World.size_alloc] at k1
  have hx : 0 ≤ a + 8 * b ∧ a + 8 * b < 64 := by omega
  have hy : 0 ≤ c + 8 * d ∧ c + 8 * d < 64 := by omega
  unfold polyV at *
  go_enter Tryd.func6, Tryd.ntmps6
  go_upto_region 1 with (fail)
  go_wp2_with (fail)
  generalize ((w.alloc (.cells #[.int .i64 a, .int .i64 b, .int .i64 c, .int .i64 d, .int .i64 p, .bool false] 29)).alloc (.cells #[.int .i64 0, .int .i64 0, .int .i64 0] 25)) = w1 at *
  refine (hpo.out _).mono ?_
  rintro e w2 ⟨rfl, hb2⟩
  go_wp2_with (fail)
  refine (hto.out _).mono ?_
  rintro e w3 ⟨rfl, hb3⟩
  have hb13 := hb2.trans (hb3.mono hb2.size)
  have k2 := rowIs_below k1 hb13 k1.lt
  have k3 := k0.trans (hb13.mono k0.size)
  clear k0 k1 hb2 hb3 hb13 hpo hto
  generalize hX : a + 8 * b = x at *
  generalize hY : c + 8 * d = y at *
  generalize hQ : kindP p = q at *
  replace hX := Lib.hid hX
  replace hY := Lib.hid hY
  replace hQ := Lib.hid hQ
  rw [mvV_lit]
  have m0 := mv_row w3 x y q
  have m1 := k2.alloc (.cells #[Value.pointer none, Value.pointer none, Value.string ⟨#[]⟩, Value.string ⟨#[]⟩, Value.map none, Value.slice none 0 0, Value.int .u64 0, Value.int .u16 0, Value.int .i8 x, Value.int .i8 y, Value.int .i8 q] 53)
  have m2 := k3.alloc k3.size (.cells #[Value.pointer none, Value.pointer none, Value.string ⟨#[]⟩, Value.string ⟨#[]⟩, Value.map none, Value.slice none 0 0, Value.int .u64 0, Value.int .u16 0, Value.int .i8 x, Value.int .i8 y, Value.int .i8 q] 53)
  go_wp2_with (fail)
  generalize (w3.alloc (.cells #[Value.pointer none, Value.pointer none, Value.string ⟨#[]⟩, Value.string ⟨#[]⟩, Value.map none, Value.slice none 0 0, Value.int .u64 0, Value.int .u16 0, Value.int .i8 x, Value.int .i8 y, Value.int .i8 q] 53)) = w4 at *
  refine (plainMove_any _ x y q 0 hx hy hk _ m0).mono ?_
  rintro e w5 ⟨rfl, hb5⟩
  have n0 := rowIs_below m0 hb5 m0.lt
  have n1 := rowIs_below m1 hb5 m1.lt
  have n2 := m2.trans (hb5.mono m2.size)
  clear m0 m1 m2 k2 k3
  unfold mv3
  go_wp2_with (first
    | (refine wpList_store_mid rfl 25 _ _ rfl (w.heap.size + 1) 0 _ rfl rfl (rowIs_there n1) (by kernel_rfl) (by simp [Value.oneCell']) ?_)
    | (go_at_call 17; refine (tags_any _ x y q 0 _ n0).mono ?_; rintro e w1 ⟨rfl, rfl⟩))
  have r1 := row_store n1 #[.int .i64 x, .int .i64 y, .int .i64 q] rfl
  have rB := below_setCells (show w.heap.size ≤ w.heap.size + 1 by omega) [.int .i64 x, .int .i64 y, .int .i64 q] 0 _ n2
  have d0 := r1.cell (i := 0) (by simp)
  have d1 := r1.cell (i := 1) (by simp)
  have d2 := r1.cell (i := 2) (by simp)
  exact bodyPost_ret (v := .tuple #[mv3 x y q, .int .i64 0]) (by simp [results, Tryd.results6, go_sem, mv3, d0, d1, d2]) rfl ⟨by rw [hX.out, hY.out, hQ.out], rB⟩
/-! The law FnPoMove. -/
theorem decoded_1 (w : World) : Calls Tryd.prog 7 #[.int .u16 64] w fun e w' => e = .returned (polyV 1 0 0 0 0 false) ∧ Below w.heap.size w w' :=
  decoded_any 64 (by omega) (by omega) (by omega) w
theorem polyMove_1 (w : World) : Calls Tryd.prog 6 #[polyV 1 0 0 0 0 false] w fun e w' => e = .returned (.tuple #[mv3 1 0 0, .int .i64 0]) ∧ Below w.heap.size w w' :=
  polyMove_any 1 0 0 0 0 (by omega) (by omega) (by omega) (by omega) (by omega) w
set_option maxRecDepth 100000 in
theorem poMove_out (x : Int) (h0 : 0 ≤ x) (h1 : x < 65536) (h : 4 < x / 4096 ∨ x / 64 % 64 = 4 ∨ x / 64 % 64 = 60) (w : World) :
    Calls Tryd.prog 3 #[.int .u16 x] w fun e w' => e = .returned (.bool true) ∧ Below w.heap.size w w' := by
  have e1 := and63' (x / 64) (by omega) (by omega)
  have hd : decide (4 < x / 4096) = true ∨ (decide (4 < x / 4096) = false ∧ (x / 64 % 64 == 4) = true) ∨ (decide (4 < x / 4096) = false ∧ (x / 64 % 64 == 4) = false ∧ (x / 64 % 64 == 60) = true) := by
    simp only [decide_eq_true_eq, decide_eq_false_iff_not, beq_iff_eq, beq_eq_false_iff_ne]; omega
  clear h
  rcases hd with f1 | ⟨f1, f2⟩ | ⟨f1, f2, f3⟩
  all_goals
    go_enter Tryd.func3, Tryd.ntmps3
    go_wp2
    go_ret
    exact ⟨rfl, Below.refl _ _⟩
set_option maxRecDepth 100000 in
theorem poMove_in0 (x : Int) (h0 : 0 ≤ x) (h1 : x < 65536) (h4 : x / 4096 = 0) (h5 : ¬ x / 64 % 64 = 4) (h6 : ¬ x / 64 % 64 = 60) (w : World) :
    Calls Tryd.prog 3 #[.int .u16 x] w fun e w' => e = .returned (.bool true) ∧ Below w.heap.size w w' := by
  have e1 := and63' (x / 64) (by omega) (by omega)
  have e2 := and63' x (by omega) (by omega)
  have f2 : (x / 64 % 64 == 4) = false := by simpa using h5
  have f3 : (x / 64 % 64 == 60) = false := by simpa using h6
  have hdec := Lib.hid (decoded_any x h0 h1 (by omega))
  have hpm := Lib.hid (polyMove_any (x / 64 % 8) (x / 512 % 8) (x % 8) (x / 8 % 8) (x / 4096 % 8) (by omega) (by omega) (by omega) (by omega) (by omega))
  rw [show x / 64 % 8 + 8 * (x / 512 % 8) = x / 64 % 64 by omega, show x % 8 + 8 * (x / 8 % 8) = x % 64 by omega, show x / 4096 % 8 = x / 4096 by omega] at hpm
  rw [show x / 4096 % 8 = x / 4096 by omega] at hdec
  rw [h4, show kindP 0 = 0 from rfl] at hpm
  rw [h4] at hdec
  have f1 : decide (4 < x / 4096) = false := by rw [h4]; rfl
  go_enter Tryd.func3, Tryd.ntmps3
  go_wp2_with (fail)
  refine (hdec.out _).mono ?_
  rintro e w1 ⟨rfl, hb1⟩
  go_wp2_with (fail)
  refine (hpm.out _).mono ?_
  rintro e w2 ⟨rfl, hb2⟩
  have hB := hb1.trans (hb2.mono hb1.size)
  clear hb1 hb2 hdec hpm
  unfold mv3
  have kr := row_lit w2 #[.int .i64 (x / 64 % 64), .int .i64 (x % 64), .int .i64 0] 25
  have kB := hB.alloc hB.size (.cells #[.int .i64 (x / 64 % 64), .int .i64 (x % 64), .int .i64 0] 25)
  go_wp2_with (fail)
  generalize (w2.alloc (.cells #[.int .i64 (x / 64 % 64), .int .i64 (x % 64), .int .i64 0] 25)) = w3 at *
  refine (decoded_1 _).mono ?_
  rintro e w4 ⟨rfl, hb4⟩
  go_wp2_with (fail)
  refine (polyMove_1 _).mono ?_
  rintro e w5 ⟨rfl, hb5⟩
  have hb35 := hb4.trans (hb5.mono hb4.size)
  have r5 := rowIs_below kr hb35 kr.lt
  have rB := kB.trans (hb35.mono kB.size)
  clear kr kB hb4 hb5 hb35
  unfold mv3
  go_upto_region 7 with (fail)
  have m1 := row_lit w5 #[.int .i64 1, .int .i64 0, .int .i64 0] 25
  have m2 := row_lit (w5.alloc (.cells #[.int .i64 1, .int .i64 0, .int .i64 0] 25)) #[.int .i64 0, .int .i64 5, .int .i64 4, .int .i64 3, .int .i64 2] 31
  have m3 := m1.alloc (.cells #[.int .i64 0, .int .i64 5, .int .i64 4, .int .i64 3, .int .i64 2] 31)
  have m4 := (r5.alloc (.cells #[.int .i64 1, .int .i64 0, .int .i64 0] 25)).alloc (.cells #[.int .i64 0, .int .i64 5, .int .i64 4, .int .i64 3, .int .i64 2] 31)
  have mB := (rB.alloc rB.size (.cells #[.int .i64 1, .int .i64 0, .int .i64 0] 25)).alloc (by have := rB.size; simp; omega) (.cells #[.int .i64 0, .int .i64 5, .int .i64 4, .int .i64 3, .int .i64 2] 31)
  rw [World.size_alloc] at m2
  generalize (w5.alloc (.cells #[.int .i64 1, .int .i64 0, .int .i64 0] 25)).alloc (.cells #[.int .i64 0, .int .i64 5, .int .i64 4, .int .i64 3, .int .i64 2] 31) = w6 at *
  have a0 : w6.cell? ⟨w2.heap.size, 0, none⟩ = some (.int .i64 (x / 64 % 64)) := m4.cell (i := 0) (by simp)
  have a1 : w6.cell? ⟨w2.heap.size, 1, none⟩ = some (.int .i64 (x % 64)) := m4.cell (i := 1) (by simp)
  have a2 : w6.cell? ⟨w2.heap.size, 2, none⟩ = some (.int .i64 0) := m4.cell (i := 2) (by simp)
  have b0 : w6.cell? ⟨w5.heap.size, 0, none⟩ = some (.int .i64 1) := m3.cell (i := 0) (by simp)
  have b1 : w6.cell? ⟨w5.heap.size, 1, none⟩ = some (.int .i64 0) := m3.cell (i := 1) (by simp)
  have b2 : w6.cell? ⟨w5.heap.size, 2, none⟩ = some (.int .i64 0) := m3.cell (i := 2) (by simp)
  have c0 : w6.cell? ⟨w5.heap.size + 1, 0, none⟩ = some (.int .i64 0) := m2.cell (i := 0) (by simp)
  have hBd : ∀ n, Below w.heap.size w (w6.drewN n) := fun n => mB.trans ⟨rfl, rfl, rfl, Nat.le_refl _, fun _ _ => rfl⟩
  replace hBd := Lib.hid hBd
  clear m1 m2 m3 m4 mB rB r5 hB
  go_quiet (fail)
  go_wp2_with (fail)
  go_ret
  exact ⟨rfl, hBd.out _⟩
set_option maxRecDepth 100000 in
theorem poMove_in1 (x : Int) (h0 : 0 ≤ x) (h1 : x < 65536) (h4 : x / 4096 = 1) (h5 : ¬ x / 64 % 64 = 4) (h6 : ¬ x / 64 % 64 = 60) (w : World) :
    Calls Tryd.prog 3 #[.int .u16 x] w fun e w' => e = .returned (.bool true) ∧ Below w.heap.size w w' := by
  have e1 := and63' (x / 64) (by omega) (by omega)
  have e2 := and63' x (by omega) (by omega)
  have f2 : (x / 64 % 64 == 4) = false := by simpa using h5
  have f3 : (x / 64 % 64 == 60) = false := by simpa using h6
  have hdec := Lib.hid (decoded_any x h0 h1 (by omega))
  have hpm := Lib.hid (polyMove_any (x / 64 % 8) (x / 512 % 8) (x % 8) (x / 8 % 8) (x / 4096 % 8) (by omega) (by omega) (by omega) (by omega) (by omega))
  rw [show x / 64 % 8 + 8 * (x / 512 % 8) = x / 64 % 64 by omega, show x % 8 + 8 * (x / 8 % 8) = x % 64 by omega, show x / 4096 % 8 = x / 4096 by omega] at hpm
  rw [show x / 4096 % 8 = x / 4096 by omega] at hdec
  rw [h4, show kindP 1 = 5 from rfl] at hpm
  rw [h4] at hdec
  have f1 : decide (4 < x / 4096) = false := by rw [h4]; rfl
  go_enter Tryd.func3, Tryd.ntmps3
  go_wp2_with (fail)
  refine (hdec.out _).mono ?_
  rintro e w1 ⟨rfl, hb1⟩
  go_wp2_with (fail)
  refine (hpm.out _).mono ?_
  rintro e w2 ⟨rfl, hb2⟩
  have hB := hb1.trans (hb2.mono hb1.size)
  clear hb1 hb2 hdec hpm
  unfold mv3
  have kr := row_lit w2 #[.int .i64 (x / 64 % 64), .int .i64 (x % 64), .int .i64 5] 25
  have kB := hB.alloc hB.size (.cells #[.int .i64 (x / 64 % 64), .int .i64 (x % 64), .int .i64 5] 25)
  go_wp2_with (fail)
  generalize (w2.alloc (.cells #[.int .i64 (x / 64 % 64), .int .i64 (x % 64), .int .i64 5] 25)) = w3 at *
  refine (decoded_1 _).mono ?_
  rintro e w4 ⟨rfl, hb4⟩
  go_wp2_with (fail)
  refine (polyMove_1 _).mono ?_
  rintro e w5 ⟨rfl, hb5⟩
  have hb35 := hb4.trans (hb5.mono hb4.size)
  have r5 := rowIs_below kr hb35 kr.lt
  have rB := kB.trans (hb35.mono kB.size)
  clear kr kB hb4 hb5 hb35
  unfold mv3
  go_upto_region 7 with (fail)
  have m1 := row_lit w5 #[.int .i64 1, .int .i64 0, .int .i64 0] 25
  have m2 := row_lit (w5.alloc (.cells #[.int .i64 1, .int .i64 0, .int .i64 0] 25)) #[.int .i64 0, .int .i64 5, .int .i64 4, .int .i64 3, .int .i64 2] 31
  have m3 := m1.alloc (.cells #[.int .i64 0, .int .i64 5, .int .i64 4, .int .i64 3, .int .i64 2] 31)
  have m4 := (r5.alloc (.cells #[.int .i64 1, .int .i64 0, .int .i64 0] 25)).alloc (.cells #[.int .i64 0, .int .i64 5, .int .i64 4, .int .i64 3, .int .i64 2] 31)
  have mB := (rB.alloc rB.size (.cells #[.int .i64 1, .int .i64 0, .int .i64 0] 25)).alloc (by have := rB.size; simp; omega) (.cells #[.int .i64 0, .int .i64 5, .int .i64 4, .int .i64 3, .int .i64 2] 31)
  rw [World.size_alloc] at m2
  generalize (w5.alloc (.cells #[.int .i64 1, .int .i64 0, .int .i64 0] 25)).alloc (.cells #[.int .i64 0, .int .i64 5, .int .i64 4, .int .i64 3, .int .i64 2] 31) = w6 at *
  have a0 : w6.cell? ⟨w2.heap.size, 0, none⟩ = some (.int .i64 (x / 64 % 64)) := m4.cell (i := 0) (by simp)
  have a1 : w6.cell? ⟨w2.heap.size, 1, none⟩ = some (.int .i64 (x % 64)) := m4.cell (i := 1) (by simp)
  have a2 : w6.cell? ⟨w2.heap.size, 2, none⟩ = some (.int .i64 5) := m4.cell (i := 2) (by simp)
  have b0 : w6.cell? ⟨w5.heap.size, 0, none⟩ = some (.int .i64 1) := m3.cell (i := 0) (by simp)
  have b1 : w6.cell? ⟨w5.heap.size, 1, none⟩ = some (.int .i64 0) := m3.cell (i := 1) (by simp)
  have b2 : w6.cell? ⟨w5.heap.size, 2, none⟩ = some (.int .i64 0) := m3.cell (i := 2) (by simp)
  have c0 : w6.cell? ⟨w5.heap.size + 1, 1, none⟩ = some (.int .i64 5) := m2.cell (i := 1) (by simp)
  have hBd : ∀ n, Below w.heap.size w (w6.drewN n) := fun n => mB.trans ⟨rfl, rfl, rfl, Nat.le_refl _, fun _ _ => rfl⟩
  replace hBd := Lib.hid hBd
  clear m1 m2 m3 m4 mB rB r5 hB
  go_quiet (fail)
  go_wp2_with (fail)
  go_ret
  exact ⟨rfl, hBd.out _⟩
set_option maxRecDepth 100000 in
theorem poMove_in2 (x : Int) (h0 : 0 ≤ x) (h1 : x < 65536) (h4 : x / 4096 = 2) (h5 : ¬ x / 64 % 64 = 4) (h6 : ¬ x / 64 % 64 = 60) (w : World) :
    Calls Tryd.prog 3 #[.int .u16 x] w fun e w' => e = .returned (.bool true) ∧ Below w.heap.size w w' := by
  have e1 := and63' (x / 64) (by omega) (by omega)
  have e2 := and63' x (by omega) (by omega)
  have f2 : (x / 64 % 64 == 4) = false := by simpa using h5
  have f3 : (x / 64 % 64 == 60) = false := by simpa using h6
  have hdec := Lib.hid (decoded_any x h0 h1 (by omega))
  have hpm := Lib.hid (polyMove_any (x / 64 % 8) (x / 512 % 8) (x % 8) (x / 8 % 8) (x / 4096 % 8) (by omega) (by omega) (by omega) (by omega) (by omega))
  rw [show x / 64 % 8 + 8 * (x / 512 % 8) = x / 64 % 64 by omega, show x % 8 + 8 * (x / 8 % 8) = x % 64 by omega, show x / 4096 % 8 = x / 4096 by omega] at hpm
  rw [show x / 4096 % 8 = x / 4096 by omega] at hdec
  rw [h4, show kindP 2 = 4 from rfl] at hpm
  rw [h4] at hdec
  have f1 : decide (4 < x / 4096) = false := by rw [h4]; rfl
  go_enter Tryd.func3, Tryd.ntmps3
  go_wp2_with (fail)
  refine (hdec.out _).mono ?_
  rintro e w1 ⟨rfl, hb1⟩
  go_wp2_with (fail)
  refine (hpm.out _).mono ?_
  rintro e w2 ⟨rfl, hb2⟩
  have hB := hb1.trans (hb2.mono hb1.size)
  clear hb1 hb2 hdec hpm
  unfold mv3
  have kr := row_lit w2 #[.int .i64 (x / 64 % 64), .int .i64 (x % 64), .int .i64 4] 25
  have kB := hB.alloc hB.size (.cells #[.int .i64 (x / 64 % 64), .int .i64 (x % 64), .int .i64 4] 25)
  go_wp2_with (fail)
  generalize (w2.alloc (.cells #[.int .i64 (x / 64 % 64), .int .i64 (x % 64), .int .i64 4] 25)) = w3 at *
  refine (decoded_1 _).mono ?_
  rintro e w4 ⟨rfl, hb4⟩
  go_wp2_with (fail)
  refine (polyMove_1 _).mono ?_
  rintro e w5 ⟨rfl, hb5⟩
  have hb35 := hb4.trans (hb5.mono hb4.size)
  have r5 := rowIs_below kr hb35 kr.lt
  have rB := kB.trans (hb35.mono kB.size)
  clear kr kB hb4 hb5 hb35
  unfold mv3
  go_upto_region 7 with (fail)
  have m1 := row_lit w5 #[.int .i64 1, .int .i64 0, .int .i64 0] 25
  have m2 := row_lit (w5.alloc (.cells #[.int .i64 1, .int .i64 0, .int .i64 0] 25)) #[.int .i64 0, .int .i64 5, .int .i64 4, .int .i64 3, .int .i64 2] 31
  have m3 := m1.alloc (.cells #[.int .i64 0, .int .i64 5, .int .i64 4, .int .i64 3, .int .i64 2] 31)
  have m4 := (r5.alloc (.cells #[.int .i64 1, .int .i64 0, .int .i64 0] 25)).alloc (.cells #[.int .i64 0, .int .i64 5, .int .i64 4, .int .i64 3, .int .i64 2] 31)
  have mB := (rB.alloc rB.size (.cells #[.int .i64 1, .int .i64 0, .int .i64 0] 25)).alloc (by have := rB.size; simp; omega) (.cells #[.int .i64 0, .int .i64 5, .int .i64 4, .int .i64 3, .int .i64 2] 31)
  rw [World.size_alloc] at m2
  generalize (w5.alloc (.cells #[.int .i64 1, .int .i64 0, .int .i64 0] 25)).alloc (.cells #[.int .i64 0, .int .i64 5, .int .i64 4, .int .i64 3, .int .i64 2] 31) = w6 at *
  have a0 : w6.cell? ⟨w2.heap.size, 0, none⟩ = some (.int .i64 (x / 64 % 64)) := m4.cell (i := 0) (by simp)
  have a1 : w6.cell? ⟨w2.heap.size, 1, none⟩ = some (.int .i64 (x % 64)) := m4.cell (i := 1) (by simp)
  have a2 : w6.cell? ⟨w2.heap.size, 2, none⟩ = some (.int .i64 4) := m4.cell (i := 2) (by simp)
  have b0 : w6.cell? ⟨w5.heap.size, 0, none⟩ = some (.int .i64 1) := m3.cell (i := 0) (by simp)
  have b1 : w6.cell? ⟨w5.heap.size, 1, none⟩ = some (.int .i64 0) := m3.cell (i := 1) (by simp)
  have b2 : w6.cell? ⟨w5.heap.size, 2, none⟩ = some (.int .i64 0) := m3.cell (i := 2) (by simp)
  have c0 : w6.cell? ⟨w5.heap.size + 1, 2, none⟩ = some (.int .i64 4) := m2.cell (i := 2) (by simp)
  have hBd : ∀ n, Below w.heap.size w (w6.drewN n) := fun n => mB.trans ⟨rfl, rfl, rfl, Nat.le_refl _, fun _ _ => rfl⟩
  replace hBd := Lib.hid hBd
  clear m1 m2 m3 m4 mB rB r5 hB
  go_quiet (fail)
  go_wp2_with (fail)
  go_ret
  exact ⟨rfl, hBd.out _⟩
set_option maxRecDepth 100000 in
theorem poMove_in3 (x : Int) (h0 : 0 ≤ x) (h1 : x < 65536) (h4 : x / 4096 = 3) (h5 : ¬ x / 64 % 64 = 4) (h6 : ¬ x / 64 % 64 = 60) (w : World) :
    Calls Tryd.prog 3 #[.int .u16 x] w fun e w' => e = .returned (.bool true) ∧ Below w.heap.size w w' := by
  have e1 := and63' (x / 64) (by omega) (by omega)
  have e2 := and63' x (by omega) (by omega)
  have f2 : (x / 64 % 64 == 4) = false := by simpa using h5
  have f3 : (x / 64 % 64 == 60) = false := by simpa using h6
  have hdec := Lib.hid (decoded_any x h0 h1 (by omega))
  have hpm := Lib.hid (polyMove_any (x / 64 % 8) (x / 512 % 8) (x % 8) (x / 8 % 8) (x / 4096 % 8) (by omega) (by omega) (by omega) (by omega) (by omega))
  rw [show x / 64 % 8 + 8 * (x / 512 % 8) = x / 64 % 64 by omega, show x % 8 + 8 * (x / 8 % 8) = x % 64 by omega, show x / 4096 % 8 = x / 4096 by omega] at hpm
  rw [show x / 4096 % 8 = x / 4096 by omega] at hdec
  rw [h4, show kindP 3 = 3 from rfl] at hpm
  rw [h4] at hdec
  have f1 : decide (4 < x / 4096) = false := by rw [h4]; rfl
  go_enter Tryd.func3, Tryd.ntmps3
  go_wp2_with (fail)
  refine (hdec.out _).mono ?_
  rintro e w1 ⟨rfl, hb1⟩
  go_wp2_with (fail)
  refine (hpm.out _).mono ?_
  rintro e w2 ⟨rfl, hb2⟩
  have hB := hb1.trans (hb2.mono hb1.size)
  clear hb1 hb2 hdec hpm
  unfold mv3
  have kr := row_lit w2 #[.int .i64 (x / 64 % 64), .int .i64 (x % 64), .int .i64 3] 25
  have kB := hB.alloc hB.size (.cells #[.int .i64 (x / 64 % 64), .int .i64 (x % 64), .int .i64 3] 25)
  go_wp2_with (fail)
  generalize (w2.alloc (.cells #[.int .i64 (x / 64 % 64), .int .i64 (x % 64), .int .i64 3] 25)) = w3 at *
  refine (decoded_1 _).mono ?_
  rintro e w4 ⟨rfl, hb4⟩
  go_wp2_with (fail)
  refine (polyMove_1 _).mono ?_
  rintro e w5 ⟨rfl, hb5⟩
  have hb35 := hb4.trans (hb5.mono hb4.size)
  have r5 := rowIs_below kr hb35 kr.lt
  have rB := kB.trans (hb35.mono kB.size)
  clear kr kB hb4 hb5 hb35
  unfold mv3
  go_upto_region 7 with (fail)
  have m1 := row_lit w5 #[.int .i64 1, .int .i64 0, .int .i64 0] 25
  have m2 := row_lit (w5.alloc (.cells #[.int .i64 1, .int .i64 0, .int .i64 0] 25)) #[.int .i64 0, .int .i64 5, .int .i64 4, .int .i64 3, .int .i64 2] 31
  have m3 := m1.alloc (.cells #[.int .i64 0, .int .i64 5, .int .i64 4, .int .i64 3, .int .i64 2] 31)
  have m4 := (r5.alloc (.cells #[.int .i64 1, .int .i64 0, .int .i64 0] 25)).alloc (.cells #[.int .i64 0, .int .i64 5, .int .i64 4, .int .i64 3, .int .i64 2] 31)
  have mB := (rB.alloc rB.size (.cells #[.int .i64 1, .int .i64 0, .int .i64 0] 25)).alloc (by have := rB.size; simp; omega) (.cells #[.int .i64 0, .int .i64 5, .int .i64 4, .int .i64 3, .int .i64 2] 31)
  rw [World.size_alloc] at m2
  generalize (w5.alloc (.cells #[.int .i64 1, .int .i64 0, .int .i64 0] 25)).alloc (.cells #[.int .i64 0, .int .i64 5, .int .i64 4, .int .i64 3, .int .i64 2] 31) = w6 at *
  have a0 : w6.cell? ⟨w2.heap.size, 0, none⟩ = some (.int .i64 (x / 64 % 64)) := m4.cell (i := 0) (by simp)
  have a1 : w6.cell? ⟨w2.heap.size, 1, none⟩ = some (.int .i64 (x % 64)) := m4.cell (i := 1) (by simp)
  have a2 : w6.cell? ⟨w2.heap.size, 2, none⟩ = some (.int .i64 3) := m4.cell (i := 2) (by simp)
  have b0 : w6.cell? ⟨w5.heap.size, 0, none⟩ = some (.int .i64 1) := m3.cell (i := 0) (by simp)
  have b1 : w6.cell? ⟨w5.heap.size, 1, none⟩ = some (.int .i64 0) := m3.cell (i := 1) (by simp)
  have b2 : w6.cell? ⟨w5.heap.size, 2, none⟩ = some (.int .i64 0) := m3.cell (i := 2) (by simp)
  have c0 : w6.cell? ⟨w5.heap.size + 1, 3, none⟩ = some (.int .i64 3) := m2.cell (i := 3) (by simp)
  have hBd : ∀ n, Below w.heap.size w (w6.drewN n) := fun n => mB.trans ⟨rfl, rfl, rfl, Nat.le_refl _, fun _ _ => rfl⟩
  replace hBd := Lib.hid hBd
  clear m1 m2 m3 m4 mB rB r5 hB
  go_quiet (fail)
  go_wp2_with (fail)
  go_ret
  exact ⟨rfl, hBd.out _⟩
set_option maxRecDepth 100000 in
theorem poMove_in4 (x : Int) (h0 : 0 ≤ x) (h1 : x < 65536) (h4 : x / 4096 = 4) (h5 : ¬ x / 64 % 64 = 4) (h6 : ¬ x / 64 % 64 = 60) (w : World) :
    Calls Tryd.prog 3 #[.int .u16 x] w fun e w' => e = .returned (.bool true) ∧ Below w.heap.size w w' := by
  have e1 := and63' (x / 64) (by omega) (by omega)
  have e2 := and63' x (by omega) (by omega)
  have f2 : (x / 64 % 64 == 4) = false := by simpa using h5
  have f3 : (x / 64 % 64 == 60) = false := by simpa using h6
  have hdec := Lib.hid (decoded_any x h0 h1 (by omega))
  have hpm := Lib.hid (polyMove_any (x / 64 % 8) (x / 512 % 8) (x % 8) (x / 8 % 8) (x / 4096 % 8) (by omega) (by omega) (by omega) (by omega) (by omega))
  rw [show x / 64 % 8 + 8 * (x / 512 % 8) = x / 64 % 64 by omega, show x % 8 + 8 * (x / 8 % 8) = x % 64 by omega, show x / 4096 % 8 = x / 4096 by omega] at hpm
  rw [show x / 4096 % 8 = x / 4096 by omega] at hdec
  rw [h4, show kindP 4 = 2 from rfl] at hpm
  rw [h4] at hdec
  have f1 : decide (4 < x / 4096) = false := by rw [h4]; rfl
  go_enter Tryd.func3, Tryd.ntmps3
  go_wp2_with (fail)
  refine (hdec.out _).mono ?_
  rintro e w1 ⟨rfl, hb1⟩
  go_wp2_with (fail)
  refine (hpm.out _).mono ?_
  rintro e w2 ⟨rfl, hb2⟩
  have hB := hb1.trans (hb2.mono hb1.size)
  clear hb1 hb2 hdec hpm
  unfold mv3
  have kr := row_lit w2 #[.int .i64 (x / 64 % 64), .int .i64 (x % 64), .int .i64 2] 25
  have kB := hB.alloc hB.size (.cells #[.int .i64 (x / 64 % 64), .int .i64 (x % 64), .int .i64 2] 25)
  go_wp2_with (fail)
  generalize (w2.alloc (.cells #[.int .i64 (x / 64 % 64), .int .i64 (x % 64), .int .i64 2] 25)) = w3 at *
  refine (decoded_1 _).mono ?_
  rintro e w4 ⟨rfl, hb4⟩
  go_wp2_with (fail)
  refine (polyMove_1 _).mono ?_
  rintro e w5 ⟨rfl, hb5⟩
  have hb35 := hb4.trans (hb5.mono hb4.size)
  have r5 := rowIs_below kr hb35 kr.lt
  have rB := kB.trans (hb35.mono kB.size)
  clear kr kB hb4 hb5 hb35
  unfold mv3
  go_upto_region 7 with (fail)
  have m1 := row_lit w5 #[.int .i64 1, .int .i64 0, .int .i64 0] 25
  have m2 := row_lit (w5.alloc (.cells #[.int .i64 1, .int .i64 0, .int .i64 0] 25)) #[.int .i64 0, .int .i64 5, .int .i64 4, .int .i64 3, .int .i64 2] 31
  have m3 := m1.alloc (.cells #[.int .i64 0, .int .i64 5, .int .i64 4, .int .i64 3, .int .i64 2] 31)
  have m4 := (r5.alloc (.cells #[.int .i64 1, .int .i64 0, .int .i64 0] 25)).alloc (.cells #[.int .i64 0, .int .i64 5, .int .i64 4, .int .i64 3, .int .i64 2] 31)
  have mB := (rB.alloc rB.size (.cells #[.int .i64 1, .int .i64 0, .int .i64 0] 25)).alloc (by have := rB.size; simp; omega) (.cells #[.int .i64 0, .int .i64 5, .int .i64 4, .int .i64 3, .int .i64 2] 31)
  rw [World.size_alloc] at m2
  generalize (w5.alloc (.cells #[.int .i64 1, .int .i64 0, .int .i64 0] 25)).alloc (.cells #[.int .i64 0, .int .i64 5, .int .i64 4, .int .i64 3, .int .i64 2] 31) = w6 at *
  have a0 : w6.cell? ⟨w2.heap.size, 0, none⟩ = some (.int .i64 (x / 64 % 64)) := m4.cell (i := 0) (by simp)
  have a1 : w6.cell? ⟨w2.heap.size, 1, none⟩ = some (.int .i64 (x % 64)) := m4.cell (i := 1) (by simp)
  have a2 : w6.cell? ⟨w2.heap.size, 2, none⟩ = some (.int .i64 2) := m4.cell (i := 2) (by simp)
  have b0 : w6.cell? ⟨w5.heap.size, 0, none⟩ = some (.int .i64 1) := m3.cell (i := 0) (by simp)
  have b1 : w6.cell? ⟨w5.heap.size, 1, none⟩ = some (.int .i64 0) := m3.cell (i := 1) (by simp)
  have b2 : w6.cell? ⟨w5.heap.size, 2, none⟩ = some (.int .i64 0) := m3.cell (i := 2) (by simp)
  have c0 : w6.cell? ⟨w5.heap.size + 1, 4, none⟩ = some (.int .i64 2) := m2.cell (i := 4) (by simp)
  have hBd : ∀ n, Below w.heap.size w (w6.drewN n) := fun n => mB.trans ⟨rfl, rfl, rfl, Nat.le_refl _, fun _ _ => rfl⟩
  replace hBd := Lib.hid hBd
  clear m1 m2 m3 m4 mB rB r5 hB
  go_quiet (fail)
  go_wp2_with (fail)
  go_ret
  exact ⟨rfl, hBd.out _⟩
end Go.Proofs.YtoigijloeillbaaDoor

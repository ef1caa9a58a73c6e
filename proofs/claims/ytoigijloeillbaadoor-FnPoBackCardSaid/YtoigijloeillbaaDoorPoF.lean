/- The thin package's code of a move; the law FnPoBack. -/
import Derived.Test.YtoigijloeillbaaDoorPoE
namespace Go.Proofs.YtoigijloeillbaaDoor
open Go.ChangeShapes Go.WideShapes Go.ChangeAt Go.RowKit Go.PlainAid
set_option maxHeartbeats 1000000
set_option linter.unusedVariables false
set_option linter.unusedSimpArgs false
attribute [local go_sem] tx_list tx_size bt_tx

theorem clo_PolyCode (p0 p1 : Addr) (w : World) :
    CallsD Tryd.prog 20 #[.pointer (some p0), .pointer (some p1)] .returning w fun e u' w' => e = .returned (.tuple #[]) ∧ u' = .returning ∧ w' = w := by
  refine callsD_of_wpS Tryd.func20 rfl fun c₀ cs hu => ?_
  apply wpS_seq
  apply wpS_region
  simp [wpOpsS, go_sem, recoverD, hu, Tryd.ntmps20, Exit.thenS]
  refine wpS_cond (t := false) (by simp [Act.eval, Array.replicate]) ?_
  simp only [Bool.false_eq_true, if_false]
  refine wpS_of_wp (wp_skip ?_)
  cases c₀
  simp_all [bodyPostS, results, Tryd.results20]

def laidC (a b q : Int) (w : World) : World := ((w.alloc (.cells #[.int .i64 a, .int .i64 b, .int .i64 q] 25)).alloc (.cells #[.int .u16 0] 22)).alloc (.cells #[.bool false] 4)
theorem laidC_facts (a b q : Int) (w : World) : (laidC a b q w).heap.size = w.heap.size + 3 ∧ (laidC a b q w).rowIs w.heap.size 25 3 (fun j => (#[.int .i64 a, .int .i64 b, .int .i64 q] : Array Value).getD j undef) ∧ (laidC a b q w).rowIs (w.heap.size + 1) 22 1 (fun j => (#[.int .u16 0] : Array Value).getD j undef) ∧ (laidC a b q w).rowIs (w.heap.size + 1 + 1) 4 1 (fun j => (#[.bool false] : Array Value).getD j undef) ∧ Below w.heap.size w (laidC a b q w) := by
  have h1 := row_lit w #[.int .i64 a, .int .i64 b, .int .i64 q] 25
  have h2 := row_lit (w.alloc (.cells #[.int .i64 a, .int .i64 b, .int .i64 q] 25)) #[.int .u16 0] 22
  have h3 := row_lit ((w.alloc (.cells #[.int .i64 a, .int .i64 b, .int .i64 q] 25)).alloc (.cells #[.int .u16 0] 22)) #[.bool false] 4
  rw [World.size_alloc] at h2
  rw [World.size_alloc, World.size_alloc] at h3
  exact ⟨by simp [laidC], (h1.alloc _).alloc _, h2.alloc _, h3, (((Below.refl _ _).alloc (Nat.le_refl _) _).alloc (by simp) _).alloc (by simp; omega) _⟩
set_option maxRecDepth 100000 in
theorem polyCode_any (a b q : Int) (ha : 0 ≤ a ∧ a < 64) (hb : 0 ≤ b ∧ b < 64) (hq : q = 0 ∨ 2 ≤ q ∧ q ≤ 5) (w : World) :
    Calls Tryd.prog 8 #[mv3 a b q] w fun e w' => e = .returned (.tuple #[.int .u16 (b + 64 * a + 4096 * polP q), .bool true]) ∧ Below w.heap.size w w' := by
  have hmf := mkf Tryd.prog
  obtain ⟨hs, hr1, hr2, hr3, hB⟩ := laidC_facts a b q w
  have hmv := Lib.hid (move_any a b q ha hb hq)
  have hcode := Lib.hid (toPoly_any a b q ha hb hq)
  have v0 : (laidC a b q w).cell? ⟨w.heap.size, 0, none⟩ = some (.int .i64 a) := hr1.cell (i := 0) (by omega)
  have v1 : (laidC a b q w).cell? ⟨w.heap.size, 1, none⟩ = some (.int .i64 b) := hr1.cell (i := 1) (by omega)
  have v2 : (laidC a b q w).cell? ⟨w.heap.size, 2, none⟩ = some (.int .i64 q) := hr1.cell (i := 2) (by omega)
  clear hq
  unfold mv3 at *
  go_enter_defers Tryd.func8, Tryd.ntmps8
  go_upto_region 2 with (fail)
  change Code.wp _ _ _ _ (laidC a b q w)
  generalize laidC a b q w = w1 at *
  go_wp2_with (fail)
  refine (hmv.out _).mono ?_
  rintro e w2 ⟨g, rfl, hg, hm, hb2⟩
  unfold mvV at hcode
  go_wp2_with (refine wpList_load_row rfl 53 _ rfl g rfl _ _ (0, 0) _ (rowIs_block hm) Tryd.underlying53 rfl (by rw [infoMove, rowArr_size]) ?_)
  refine (hcode.out _).mono ?_
  rintro e w3 ⟨rfl, hb3⟩
  have hb13 := hb2.trans (hb3.mono hb2.size)
  have q2 := rowIs_below hr2 hb13 (by omega)
  have q3 := rowIs_below hr3 hb13 (by omega)
  have qB := hB.trans (hb13.mono hB.size)
  have k2 : w3.cell? ⟨w.heap.size + 1, 0, none⟩ = some (.int .u16 0) := q2.cell (i := 0) (by omega)
  have k3 : w3.cell? ⟨w.heap.size + 1 + 1, 0, none⟩ = some (.bool false) := q3.cell (i := 0) (by omega)
  have f2 := q2.frozen 0
  have f3 := q3.frozen 0
  have p2 := (q2.set 0 (.int .u16 (b + 64 * a + 4096 * polP q))).setOther (a := ⟨w.heap.size + 1 + 1, 0, none⟩) (by simp) (.bool true)
  have p3 := (q3.setOther (a := ⟨w.heap.size + 1, 0, none⟩) (by simp) (.int .u16 (b + 64 * a + 4096 * polP q))).set 0 (.bool true)
  have pB := (qB.setCell (p := ⟨w.heap.size + 1, 0, none⟩) (by simp) (.int .u16 (b + 64 * a + 4096 * polP q))).setCell (p := ⟨w.heap.size + 1 + 1, 0, none⟩) (by simp; omega) (.bool true)
  have d2 := p2.cell (i := 0) (by omega)
  have d3 := p3.cell (i := 0) (by omega)
  replace pB := Lib.hid pB
  clear hm hg hb2 hb3 hb13 q2 q3 qB hr1 hr2 hr3 hB p2 p3 v0 v1 v2
  simp only [if_pos] at d2 d3
  go_wp2_with (fail)
  refine leaves_cons (f := 20) (args := #[.pointer (some ⟨w.heap.size + 1, 0, none⟩), .pointer (some ⟨w.heap.size + 2, 0, none⟩)]) (by simp) (by simp [go_sem]) ?_; refine (clo_PolyCode _ _ _).mono ?_; rintro e u' w'' ⟨rfl, rfl, rfl⟩
  simp [Leaves, settle, results, Tryd.results8, asAddr, go_sem, d2, d3]
  exact pB.out
/-! The law FnPoBack. -/
theorem polyCode_1 (w : World) : Calls Tryd.prog 8 #[mv3 1 0 0] w fun e w' => e = .returned (.tuple #[.int .u16 64, .bool true]) ∧ Below w.heap.size w w' :=
  polyCode_any 1 0 0 (by omega) (by omega) (.inl rfl) w
set_option maxRecDepth 100000 in
theorem poBack_out0 (x y z a b : Int) (hx : 0 ≤ x ∧ x < 256) (hy : 0 ≤ y ∧ y < 256) (hz : 0 ≤ z ∧ z < 256) (ea : x % 64 = a) (eb : y % 64 = b) (h5 : z % 5 = 0) (h : a = 4 ∨ a = 60) (w : World) :
    Calls Tryd.prog 4 #[.int .u8 x, .int .u8 y, .int .u8 z] w fun e w' => e = .returned (.bool true) ∧ Below w.heap.size w w' := by
  have hd : (a == 4) = true ∨ ((a == 4) = false ∧ (a == 60) = true) := by
    simp only [beq_iff_eq, beq_eq_false_iff_ne]; omega
  have hab : 0 ≤ a ∧ a < 64 := by omega
  have hbb : 0 ≤ b ∧ b < 64 := by omega
  clear h
  rcases hd with f1 | ⟨f1, f2⟩
  all_goals
    go_enter Tryd.func4, Tryd.ntmps4
    go_wp2
    go_ret
    exact ⟨rfl, ((Below.refl _ _).alloc (Nat.le_refl _) _).alloc (by simp) _⟩
set_option maxRecDepth 100000 in
theorem poBack_in0 (x y z a b : Int) (hx : 0 ≤ x ∧ x < 256) (hy : 0 ≤ y ∧ y < 256) (hz : 0 ≤ z ∧ z < 256) (ea : x % 64 = a) (eb : y % 64 = b) (h5 : z % 5 = 0) (h4 : a ≠ 4) (h6 : a ≠ 60) (w : World) :
    Calls Tryd.prog 4 #[.int .u8 x, .int .u8 y, .int .u8 z] w fun e w' => e = .returned (.bool true) ∧ Below w.heap.size w w' := by
  have f1 : (a == 4) = false := by simpa using h4
  have f2 : (a == 60) = false := by simpa using h6
  have hab : 0 ≤ a ∧ a < 64 := by omega
  have hbb : 0 ≤ b ∧ b < 64 := by omega
  have hco := Lib.hid (polyCode_any a b 0 hab hbb (by omega))
  have hP : polP 0 = 0 := rfl
  rw [hP] at hco
  have hdec := Lib.hid (decoded_any (b + 64 * a + 4096 * 0) (by omega) (by omega) (by omega))
  rw [show (b + 64 * a + 4096 * 0) / 64 % 8 = a % 8 by omega, show (b + 64 * a + 4096 * 0) / 512 % 8 = a / 8 by omega, show (b + 64 * a + 4096 * 0) % 8 = b % 8 by omega, show (b + 64 * a + 4096 * 0) / 8 % 8 = b / 8 by omega, show (b + 64 * a + 4096 * 0) / 4096 % 8 = 0 by omega] at hdec
  have hpm := Lib.hid (polyMove_any (a % 8) (a / 8) (b % 8) (b / 8) 0 (by omega) (by omega) (by omega) (by omega) (by omega))
  rw [show a % 8 + 8 * (a / 8) = a by omega, show b % 8 + 8 * (b / 8) = b by omega, show kindP 0 = 0 from rfl] at hpm
  generalize b + 64 * a + 4096 * 0 = X at hco hdec
  have hb0 : Below w.heap.size w ((w.alloc (.cells #[.int .i64 0, .int .i64 2, .int .i64 3, .int .i64 4, .int .i64 5] 3)).alloc (.cells #[.int .i64 a, .int .i64 b, .int .i64 0] 25)) := ((Below.refl _ _).alloc (Nat.le_refl _) _).alloc (by simp) _
  have hr0 := row_lit (w.alloc (.cells #[.int .i64 0, .int .i64 2, .int .i64 3, .int .i64 4, .int .i64 5] 3)) #[.int .i64 a, .int .i64 b, .int .i64 0] 25
  rw [World.size_alloc] at hr0
  have hone := Lib.hid polyCode_1
  unfold mv3 at *
  go_enter Tryd.func4, Tryd.ntmps4
  go_upto_region 4 with (fail)
  go_wp2_with (fail)
  generalize ((w.alloc (.cells #[.int .i64 0, .int .i64 2, .int .i64 3, .int .i64 4, .int .i64 5] 3)).alloc (.cells #[.int .i64 a, .int .i64 b, .int .i64 0] 25)) = w1 at *
  refine (hco.out _).mono ?_
  rintro e w2 ⟨rfl, hb2⟩
  go_wp2_with (fail)
  refine (hdec.out _).mono ?_
  rintro e w3 ⟨rfl, hb3⟩
  go_wp2_with (fail)
  refine (hpm.out _).mono ?_
  rintro e w4 ⟨rfl, hb4⟩
  have b14 := hb2.trans ((hb3.trans (hb4.mono hb3.size)).mono hb2.size)
  have r4 := rowIs_below hr0 b14 hr0.lt
  have bB := hb0.trans (b14.mono hb0.size)
  clear hb2 hb3 hb4 hr0 hb0 b14 hco hdec hpm
  have m1 := r4.alloc (.cells #[.int .i64 a, .int .i64 b, .int .i64 0] 25)
  have m2 := row_lit w4 #[.int .i64 a, .int .i64 b, .int .i64 0] 25
  have mB := bB.alloc bB.size (.cells #[.int .i64 a, .int .i64 b, .int .i64 0] 25)
  go_wp2_with (fail)
  generalize (w4.alloc (.cells #[.int .i64 a, .int .i64 b, .int .i64 0] 25)) = w5 at *
  refine (hone.out _).mono ?_
  rintro e w6 ⟨rfl, hb6⟩
  have n1 := rowIs_below m1 hb6 m1.lt
  have n2 := rowIs_below m2 hb6 m2.lt
  have nB := mB.trans (hb6.mono mB.size)
  have a0 : w6.cell? ⟨w.heap.size + 1, 0, none⟩ = some (.int .i64 a) := n1.cell (i := 0) (by simp)
  have a1 : w6.cell? ⟨w.heap.size + 1, 1, none⟩ = some (.int .i64 b) := n1.cell (i := 1) (by simp)
  have a2 : w6.cell? ⟨w.heap.size + 1, 2, none⟩ = some (.int .i64 0) := n1.cell (i := 2) (by simp)
  have b0 : w6.cell? ⟨w4.heap.size, 0, none⟩ = some (.int .i64 a) := n2.cell (i := 0) (by simp)
  have b1 : w6.cell? ⟨w4.heap.size, 1, none⟩ = some (.int .i64 b) := n2.cell (i := 1) (by simp)
  have b2 : w6.cell? ⟨w4.heap.size, 2, none⟩ = some (.int .i64 0) := n2.cell (i := 2) (by simp)
  clear n1 n2 m1 m2 mB hb6 r4 bB hone
  replace nB := Lib.hid nB
  go_wp2_with (fail)
  go_ret
  exact ⟨rfl, nB.out⟩
set_option maxRecDepth 100000 in
theorem poBack_out1 (x y z a b : Int) (hx : 0 ≤ x ∧ x < 256) (hy : 0 ≤ y ∧ y < 256) (hz : 0 ≤ z ∧ z < 256) (ea : x % 64 = a) (eb : y % 64 = b) (h5 : z % 5 = 1) (h : a = 4 ∨ a = 60) (w : World) :
    Calls Tryd.prog 4 #[.int .u8 x, .int .u8 y, .int .u8 z] w fun e w' => e = .returned (.bool true) ∧ Below w.heap.size w w' := by
  have hd : (a == 4) = true ∨ ((a == 4) = false ∧ (a == 60) = true) := by
    simp only [beq_iff_eq, beq_eq_false_iff_ne]; omega
  have hab : 0 ≤ a ∧ a < 64 := by omega
  have hbb : 0 ≤ b ∧ b < 64 := by omega
  clear h
  rcases hd with f1 | ⟨f1, f2⟩
  all_goals
    go_enter Tryd.func4, Tryd.ntmps4
    go_wp2
    go_ret
    exact ⟨rfl, ((Below.refl _ _).alloc (Nat.le_refl _) _).alloc (by simp) _⟩
set_option maxRecDepth 100000 in
theorem poBack_in1 (x y z a b : Int) (hx : 0 ≤ x ∧ x < 256) (hy : 0 ≤ y ∧ y < 256) (hz : 0 ≤ z ∧ z < 256) (ea : x % 64 = a) (eb : y % 64 = b) (h5 : z % 5 = 1) (h4 : a ≠ 4) (h6 : a ≠ 60) (w : World) :
    Calls Tryd.prog 4 #[.int .u8 x, .int .u8 y, .int .u8 z] w fun e w' => e = .returned (.bool true) ∧ Below w.heap.size w w' := by
  have f1 : (a == 4) = false := by simpa using h4
  have f2 : (a == 60) = false := by simpa using h6
  have hab : 0 ≤ a ∧ a < 64 := by omega
  have hbb : 0 ≤ b ∧ b < 64 := by omega
  have hco := Lib.hid (polyCode_any a b 2 hab hbb (by omega))
  have hP : polP 2 = 4 := rfl
  rw [hP] at hco
  have hdec := Lib.hid (decoded_any (b + 64 * a + 4096 * 4) (by omega) (by omega) (by omega))
  rw [show (b + 64 * a + 4096 * 4) / 64 % 8 = a % 8 by omega, show (b + 64 * a + 4096 * 4) / 512 % 8 = a / 8 by omega, show (b + 64 * a + 4096 * 4) % 8 = b % 8 by omega, show (b + 64 * a + 4096 * 4) / 8 % 8 = b / 8 by omega, show (b + 64 * a + 4096 * 4) / 4096 % 8 = 4 by omega] at hdec
  have hpm := Lib.hid (polyMove_any (a % 8) (a / 8) (b % 8) (b / 8) 4 (by omega) (by omega) (by omega) (by omega) (by omega))
  rw [show a % 8 + 8 * (a / 8) = a by omega, show b % 8 + 8 * (b / 8) = b by omega, show kindP 4 = 2 from rfl] at hpm
  generalize b + 64 * a + 4096 * 4 = X at hco hdec
  have hb0 : Below w.heap.size w ((w.alloc (.cells #[.int .i64 0, .int .i64 2, .int .i64 3, .int .i64 4, .int .i64 5] 3)).alloc (.cells #[.int .i64 a, .int .i64 b, .int .i64 2] 25)) := ((Below.refl _ _).alloc (Nat.le_refl _) _).alloc (by simp) _
  have hr0 := row_lit (w.alloc (.cells #[.int .i64 0, .int .i64 2, .int .i64 3, .int .i64 4, .int .i64 5] 3)) #[.int .i64 a, .int .i64 b, .int .i64 2] 25
  rw [World.size_alloc] at hr0
  have hone := Lib.hid polyCode_1
  unfold mv3 at *
  go_enter Tryd.func4, Tryd.ntmps4
  go_upto_region 4 with (fail)
  go_wp2_with (fail)
  generalize ((w.alloc (.cells #[.int .i64 0, .int .i64 2, .int .i64 3, .int .i64 4, .int .i64 5] 3)).alloc (.cells #[.int .i64 a, .int .i64 b, .int .i64 2] 25)) = w1 at *
  refine (hco.out _).mono ?_
  rintro e w2 ⟨rfl, hb2⟩
  go_wp2_with (fail)
  refine (hdec.out _).mono ?_
  rintro e w3 ⟨rfl, hb3⟩
  go_wp2_with (fail)
  refine (hpm.out _).mono ?_
  rintro e w4 ⟨rfl, hb4⟩
  have b14 := hb2.trans ((hb3.trans (hb4.mono hb3.size)).mono hb2.size)
  have r4 := rowIs_below hr0 b14 hr0.lt
  have bB := hb0.trans (b14.mono hb0.size)
  clear hb2 hb3 hb4 hr0 hb0 b14 hco hdec hpm
  have m1 := r4.alloc (.cells #[.int .i64 a, .int .i64 b, .int .i64 2] 25)
  have m2 := row_lit w4 #[.int .i64 a, .int .i64 b, .int .i64 2] 25
  have mB := bB.alloc bB.size (.cells #[.int .i64 a, .int .i64 b, .int .i64 2] 25)
  go_wp2_with (fail)
  generalize (w4.alloc (.cells #[.int .i64 a, .int .i64 b, .int .i64 2] 25)) = w5 at *
  refine (hone.out _).mono ?_
  rintro e w6 ⟨rfl, hb6⟩
  have n1 := rowIs_below m1 hb6 m1.lt
  have n2 := rowIs_below m2 hb6 m2.lt
  have nB := mB.trans (hb6.mono mB.size)
  have a0 : w6.cell? ⟨w.heap.size + 1, 0, none⟩ = some (.int .i64 a) := n1.cell (i := 0) (by simp)
  have a1 : w6.cell? ⟨w.heap.size + 1, 1, none⟩ = some (.int .i64 b) := n1.cell (i := 1) (by simp)
  have a2 : w6.cell? ⟨w.heap.size + 1, 2, none⟩ = some (.int .i64 2) := n1.cell (i := 2) (by simp)
  have b0 : w6.cell? ⟨w4.heap.size, 0, none⟩ = some (.int .i64 a) := n2.cell (i := 0) (by simp)
  have b1 : w6.cell? ⟨w4.heap.size, 1, none⟩ = some (.int .i64 b) := n2.cell (i := 1) (by simp)
  have b2 : w6.cell? ⟨w4.heap.size, 2, none⟩ = some (.int .i64 2) := n2.cell (i := 2) (by simp)
  clear n1 n2 m1 m2 mB hb6 r4 bB hone
  replace nB := Lib.hid nB
  go_wp2_with (fail)
  go_ret
  exact ⟨rfl, nB.out⟩
set_option maxRecDepth 100000 in
theorem poBack_out2 (x y z a b : Int) (hx : 0 ≤ x ∧ x < 256) (hy : 0 ≤ y ∧ y < 256) (hz : 0 ≤ z ∧ z < 256) (ea : x % 64 = a) (eb : y % 64 = b) (h5 : z % 5 = 2) (h : a = 4 ∨ a = 60) (w : World) :
    Calls Tryd.prog 4 #[.int .u8 x, .int .u8 y, .int .u8 z] w fun e w' => e = .returned (.bool true) ∧ Below w.heap.size w w' := by
  have hd : (a == 4) = true ∨ ((a == 4) = false ∧ (a == 60) = true) := by
    simp only [beq_iff_eq, beq_eq_false_iff_ne]; omega
  have hab : 0 ≤ a ∧ a < 64 := by omega
  have hbb : 0 ≤ b ∧ b < 64 := by omega
  clear h
  rcases hd with f1 | ⟨f1, f2⟩
  all_goals
    go_enter Tryd.func4, Tryd.ntmps4
    go_wp2
    go_ret
    exact ⟨rfl, ((Below.refl _ _).alloc (Nat.le_refl _) _).alloc (by simp) _⟩
set_option maxRecDepth 100000 in
theorem poBack_in2 (x y z a b : Int) (hx : 0 ≤ x ∧ x < 256) (hy : 0 ≤ y ∧ y < 256) (hz : 0 ≤ z ∧ z < 256) (ea : x % 64 = a) (eb : y % 64 = b) (h5 : z % 5 = 2) (h4 : a ≠ 4) (h6 : a ≠ 60) (w : World) :
    Calls Tryd.prog 4 #[.int .u8 x, .int .u8 y, .int .u8 z] w fun e w' => e = .returned (.bool true) ∧ Below w.heap.size w w' := by
  have f1 : (a == 4) = false := by simpa using h4
  have f2 : (a == 60) = false := by simpa using h6
  have hab : 0 ≤ a ∧ a < 64 := by omega
  have hbb : 0 ≤ b ∧ b < 64 := by omega
  have hco := Lib.hid (polyCode_any a b 3 hab hbb (by omega))
  have hP : polP 3 = 3 := rfl
  rw [hP] at hco
  have hdec := Lib.hid (decoded_any (b + 64 * a + 4096 * 3) (by omega) (by omega) (by omega))
  rw [show (b + 64 * a + 4096 * 3) / 64 % 8 = a % 8 by omega, show (b + 64 * a + 4096 * 3) / 512 % 8 = a / 8 by omega, show (b + 64 * a + 4096 * 3) % 8 = b % 8 by omega, show (b + 64 * a + 4096 * 3) / 8 % 8 = b / 8 by omega, show (b + 64 * a + 4096 * 3) / 4096 % 8 = 3 by omega] at hdec
  have hpm := Lib.hid (polyMove_any (a % 8) (a / 8) (b % 8) (b / 8) 3 (by omega) (by omega) (by omega) (by omega) (by omega))
  rw [show a % 8 + 8 * (a / 8) = a by omega, show b % 8 + 8 * (b / 8) = b by omega, show kindP 3 = 3 from rfl] at hpm
  generalize b + 64 * a + 4096 * 3 = X at hco hdec
  have hb0 : Below w.heap.size w ((w.alloc (.cells #[.int .i64 0, .int .i64 2, .int .i64 3, .int .i64 4, .int .i64 5] 3)).alloc (.cells #[.int .i64 a, .int .i64 b, .int .i64 3] 25)) := ((Below.refl _ _).alloc (Nat.le_refl _) _).alloc (by simp) _
  have hr0 := row_lit (w.alloc (.cells #[.int .i64 0, .int .i64 2, .int .i64 3, .int .i64 4, .int .i64 5] 3)) #[.int .i64 a, .int .i64 b, .int .i64 3] 25
  rw [World.size_alloc] at hr0
  have hone := Lib.hid polyCode_1
  unfold mv3 at *
  go_enter Tryd.func4, Tryd.ntmps4
  go_upto_region 4 with (fail)
  go_wp2_with (fail)
  generalize ((w.alloc (.cells #[.int .i64 0, .int .i64 2, .int .i64 3, .int .i64 4, .int .i64 5] 3)).alloc (.cells #[.int .i64 a, .int .i64 b, .int .i64 3] 25)) = w1 at *
  refine (hco.out _).mono ?_
  rintro e w2 ⟨rfl, hb2⟩
  go_wp2_with (fail)
  refine (hdec.out _).mono ?_
  rintro e w3 ⟨rfl, hb3⟩
  go_wp2_with (fail)
  refine (hpm.out _).mono ?_
  rintro e w4 ⟨rfl, hb4⟩
  have b14 := hb2.trans ((hb3.trans (hb4.mono hb3.size)).mono hb2.size)
  have r4 := rowIs_below hr0 b14 hr0.lt
  have bB := hb0.trans (b14.mono hb0.size)
  clear hb2 hb3 hb4 hr0 hb0 b14 hco hdec hpm
  have m1 := r4.alloc (.cells #[.int .i64 a, .int .i64 b, .int .i64 3] 25)
  have m2 := row_lit w4 #[.int .i64 a, .int .i64 b, .int .i64 3] 25
  have mB := bB.alloc bB.size (.cells #[.int .i64 a, .int .i64 b, .int .i64 3] 25)
  go_wp2_with (fail)
  generalize (w4.alloc (.cells #[.int .i64 a, .int .i64 b, .int .i64 3] 25)) = w5 at *
  refine (hone.out _).mono ?_
  rintro e w6 ⟨rfl, hb6⟩
  have n1 := rowIs_below m1 hb6 m1.lt
  have n2 := rowIs_below m2 hb6 m2.lt
  have nB := mB.trans (hb6.mono mB.size)
  have a0 : w6.cell? ⟨w.heap.size + 1, 0, none⟩ = some (.int .i64 a) := n1.cell (i := 0) (by simp)
  have a1 : w6.cell? ⟨w.heap.size + 1, 1, none⟩ = some (.int .i64 b) := n1.cell (i := 1) (by simp)
  have a2 : w6.cell? ⟨w.heap.size + 1, 2, none⟩ = some (.int .i64 3) := n1.cell (i := 2) (by simp)
  have b0 : w6.cell? ⟨w4.heap.size, 0, none⟩ = some (.int .i64 a) := n2.cell (i := 0) (by simp)
  have b1 : w6.cell? ⟨w4.heap.size, 1, none⟩ = some (.int .i64 b) := n2.cell (i := 1) (by simp)
  have b2 : w6.cell? ⟨w4.heap.size, 2, none⟩ = some (.int .i64 3) := n2.cell (i := 2) (by simp)
  clear n1 n2 m1 m2 mB hb6 r4 bB hone
  replace nB := Lib.hid nB
  go_wp2_with (fail)
  go_ret
  exact ⟨rfl, nB.out⟩
set_option maxRecDepth 100000 in
theorem poBack_out3 (x y z a b : Int) (hx : 0 ≤ x ∧ x < 256) (hy : 0 ≤ y ∧ y < 256) (hz : 0 ≤ z ∧ z < 256) (ea : x % 64 = a) (eb : y % 64 = b) (h5 : z % 5 = 3) (h : a = 4 ∨ a = 60) (w : World) :
    Calls Tryd.prog 4 #[.int .u8 x, .int .u8 y, .int .u8 z] w fun e w' => e = .returned (.bool true) ∧ Below w.heap.size w w' := by
  have hd : (a == 4) = true ∨ ((a == 4) = false ∧ (a == 60) = true) := by
    simp only [beq_iff_eq, beq_eq_false_iff_ne]; omega
  have hab : 0 ≤ a ∧ a < 64 := by omega
  have hbb : 0 ≤ b ∧ b < 64 := by omega
  clear h
  rcases hd with f1 | ⟨f1, f2⟩
  all_goals
    go_enter Tryd.func4, Tryd.ntmps4
    go_wp2
    go_ret
    exact ⟨rfl, ((Below.refl _ _).alloc (Nat.le_refl _) _).alloc (by simp) _⟩
set_option maxRecDepth 100000 in
theorem poBack_in3 (x y z a b : Int) (hx : 0 ≤ x ∧ x < 256) (hy : 0 ≤ y ∧ y < 256) (hz : 0 ≤ z ∧ z < 256) (ea : x % 64 = a) (eb : y % 64 = b) (h5 : z % 5 = 3) (h4 : a ≠ 4) (h6 : a ≠ 60) (w : World) :
    Calls Tryd.prog 4 #[.int .u8 x, .int .u8 y, .int .u8 z] w fun e w' => e = .returned (.bool true) ∧ Below w.heap.size w w' := by
  have f1 : (a == 4) = false := by simpa using h4
  have f2 : (a == 60) = false := by simpa using h6
  have hab : 0 ≤ a ∧ a < 64 := by omega
  have hbb : 0 ≤ b ∧ b < 64 := by omega
  have hco := Lib.hid (polyCode_any a b 4 hab hbb (by omega))
  have hP : polP 4 = 2 := rfl
  rw [hP] at hco
  have hdec := Lib.hid (decoded_any (b + 64 * a + 4096 * 2) (by omega) (by omega) (by omega))
  rw [show (b + 64 * a + 4096 * 2) / 64 % 8 = a % 8 by omega, show (b + 64 * a + 4096 * 2) / 512 % 8 = a / 8 by omega, show (b + 64 * a + 4096 * 2) % 8 = b % 8 by omega, show (b + 64 * a + 4096 * 2) / 8 % 8 = b / 8 by omega, show (b + 64 * a + 4096 * 2) / 4096 % 8 = 2 by omega] at hdec
  have hpm := Lib.hid (polyMove_any (a % 8) (a / 8) (b % 8) (b / 8) 2 (by omega) (by omega) (by omega) (by omega) (by omega))
  rw [show a % 8 + 8 * (a / 8) = a by omega, show b % 8 + 8 * (b / 8) = b by omega, show kindP 2 = 4 from rfl] at hpm
  generalize b + 64 * a + 4096 * 2 = X at hco hdec
  have hb0 : Below w.heap.size w ((w.alloc (.cells #[.int .i64 0, .int .i64 2, .int .i64 3, .int .i64 4, .int .i64 5] 3)).alloc (.cells #[.int .i64 a, .int .i64 b, .int .i64 4] 25)) := ((Below.refl _ _).alloc (Nat.le_refl _) _).alloc (by simp) _
  have hr0 := row_lit (w.alloc (.cells #[.int .i64 0, .int .i64 2, .int .i64 3, .int .i64 4, .int .i64 5] 3)) #[.int .i64 a, .int .i64 b, .int .i64 4] 25
  rw [World.size_alloc] at hr0
  have hone := Lib.hid polyCode_1
  unfold mv3 at *
  go_enter Tryd.func4, Tryd.ntmps4
  go_upto_region 4 with (fail)
  go_wp2_with (fail)
  generalize ((w.alloc (.cells #[.int .i64 0, .int .i64 2, .int .i64 3, .int .i64 4, .int .i64 5] 3)).alloc (.cells #[.int .i64 a, .int .i64 b, .int .i64 4] 25)) = w1 at *
  refine (hco.out _).mono ?_
  rintro e w2 ⟨rfl, hb2⟩
  go_wp2_with (fail)
  refine (hdec.out _).mono ?_
  rintro e w3 ⟨rfl, hb3⟩
  go_wp2_with (fail)
  refine (hpm.out _).mono ?_
  rintro e w4 ⟨rfl, hb4⟩
  have b14 := hb2.trans ((hb3.trans (hb4.mono hb3.size)).mono hb2.size)
  have r4 := rowIs_below hr0 b14 hr0.lt
  have bB := hb0.trans (b14.mono hb0.size)
  clear hb2 hb3 hb4 hr0 hb0 b14 hco hdec hpm
  have m1 := r4.alloc (.cells #[.int .i64 a, .int .i64 b, .int .i64 4] 25)
  have m2 := row_lit w4 #[.int .i64 a, .int .i64 b, .int .i64 4] 25
  have mB := bB.alloc bB.size (.cells #[.int .i64 a, .int .i64 b, .int .i64 4] 25)
  go_wp2_with (fail)
  generalize (w4.alloc (.cells #[.int .i64 a, .int .i64 b, .int .i64 4] 25)) = w5 at *
  refine (hone.out _).mono ?_
  rintro e w6 ⟨rfl, hb6⟩
  have n1 := rowIs_below m1 hb6 m1.lt
  have n2 := rowIs_below m2 hb6 m2.lt
  have nB := mB.trans (hb6.mono mB.size)
  have a0 : w6.cell? ⟨w.heap.size + 1, 0, none⟩ = some (.int .i64 a) := n1.cell (i := 0) (by simp)
  have a1 : w6.cell? ⟨w.heap.size + 1, 1, none⟩ = some (.int .i64 b) := n1.cell (i := 1) (by simp)
  have a2 : w6.cell? ⟨w.heap.size + 1, 2, none⟩ = some (.int .i64 4) := n1.cell (i := 2) (by simp)
  have b0 : w6.cell? ⟨w4.heap.size, 0, none⟩ = some (.int .i64 a) := n2.cell (i := 0) (by simp)
  have b1 : w6.cell? ⟨w4.heap.size, 1, none⟩ = some (.int .i64 b) := n2.cell (i := 1) (by simp)
  have b2 : w6.cell? ⟨w4.heap.size, 2, none⟩ = some (.int .i64 4) := n2.cell (i := 2) (by simp)
  clear n1 n2 m1 m2 mB hb6 r4 bB hone
  replace nB := Lib.hid nB
  go_wp2_with (fail)
  go_ret
  exact ⟨rfl, nB.out⟩
set_option maxRecDepth 100000 in
theorem poBack_out4 (x y z a b : Int) (hx : 0 ≤ x ∧ x < 256) (hy : 0 ≤ y ∧ y < 256) (hz : 0 ≤ z ∧ z < 256) (ea : x % 64 = a) (eb : y % 64 = b) (h5 : z % 5 = 4) (h : a = 4 ∨ a = 60) (w : World) :
    Calls Tryd.prog 4 #[.int .u8 x, .int .u8 y, .int .u8 z] w fun e w' => e = .returned (.bool true) ∧ Below w.heap.size w w' := by
  have hd : (a == 4) = true ∨ ((a == 4) = false ∧ (a == 60) = true) := by
    simp only [beq_iff_eq, beq_eq_false_iff_ne]; omega
  have hab : 0 ≤ a ∧ a < 64 := by omega
  have hbb : 0 ≤ b ∧ b < 64 := by omega
  clear h
  rcases hd with f1 | ⟨f1, f2⟩
  all_goals
    go_enter Tryd.func4, Tryd.ntmps4
    go_wp2
    go_ret
    exact ⟨rfl, ((Below.refl _ _).alloc (Nat.le_refl _) _).alloc (by simp) _⟩
set_option maxRecDepth 100000 in
theorem poBack_in4 (x y z a b : Int) (hx : 0 ≤ x ∧ x < 256) (hy : 0 ≤ y ∧ y < 256) (hz : 0 ≤ z ∧ z < 256) (ea : x % 64 = a) (eb : y % 64 = b) (h5 : z % 5 = 4) (h4 : a ≠ 4) (h6 : a ≠ 60) (w : World) :
    Calls Tryd.prog 4 #[.int .u8 x, .int .u8 y, .int .u8 z] w fun e w' => e = .returned (.bool true) ∧ Below w.heap.size w w' := by
  have f1 : (a == 4) = false := by simpa using h4
  have f2 : (a == 60) = false := by simpa using h6
  have hab : 0 ≤ a ∧ a < 64 := by omega
  have hbb : 0 ≤ b ∧ b < 64 := by omega
  have hco := Lib.hid (polyCode_any a b 5 hab hbb (by omega))
  have hP : polP 5 = 1 := rfl
  rw [hP] at hco
  have hdec := Lib.hid (decoded_any (b + 64 * a + 4096 * 1) (by omega) (by omega) (by omega))
  rw [show (b + 64 * a + 4096 * 1) / 64 % 8 = a % 8 by omega, show (b + 64 * a + 4096 * 1) / 512 % 8 = a / 8 by omega, show (b + 64 * a + 4096 * 1) % 8 = b % 8 by omega, show (b + 64 * a + 4096 * 1) / 8 % 8 = b / 8 by omega, show (b + 64 * a + 4096 * 1) / 4096 % 8 = 1 by omega] at hdec
  have hpm := Lib.hid (polyMove_any (a % 8) (a / 8) (b % 8) (b / 8) 1 (by omega) (by omega) (by omega) (by omega) (by omega))
  rw [show a % 8 + 8 * (a / 8) = a by omega, show b % 8 + 8 * (b / 8) = b by omega, show kindP 1 = 5 from rfl] at hpm
  generalize b + 64 * a + 4096 * 1 = X at hco hdec
  have hb0 : Below w.heap.size w ((w.alloc (.cells #[.int .i64 0, .int .i64 2, .int .i64 3, .int .i64 4, .int .i64 5] 3)).alloc (.cells #[.int .i64 a, .int .i64 b, .int .i64 5] 25)) := ((Below.refl _ _).alloc (Nat.le_refl _) _).alloc (by simp) _
  have hr0 := row_lit (w.alloc (.cells #[.int .i64 0, .int .i64 2, .int .i64 3, .int .i64 4, .int .i64 5] 3)) #[.int .i64 a, .int .i64 b, .int .i64 5] 25
  rw [World.size_alloc] at hr0
  have hone := Lib.hid polyCode_1
  unfold mv3 at *
  go_enter Tryd.func4, Tryd.ntmps4
  go_upto_region 4 with (fail)
  go_wp2_with (fail)
  generalize ((w.alloc (.cells #[.int .i64 0, .int .i64 2, .int .i64 3, .int .i64 4, .int .i64 5] 3)).alloc (.cells #[.int .i64 a, .int .i64 b, .int .i64 5] 25)) = w1 at *
  refine (hco.out _).mono ?_
  rintro e w2 ⟨rfl, hb2⟩
  go_wp2_with (fail)
  refine (hdec.out _).mono ?_
  rintro e w3 ⟨rfl, hb3⟩
  go_wp2_with (fail)
  refine (hpm.out _).mono ?_
  rintro e w4 ⟨rfl, hb4⟩
  have b14 := hb2.trans ((hb3.trans (hb4.mono hb3.size)).mono hb2.size)
  have r4 := rowIs_below hr0 b14 hr0.lt
  have bB := hb0.trans (b14.mono hb0.size)
  clear hb2 hb3 hb4 hr0 hb0 b14 hco hdec hpm
  have m1 := r4.alloc (.cells #[.int .i64 a, .int .i64 b, .int .i64 5] 25)
  have m2 := row_lit w4 #[.int .i64 a, .int .i64 b, .int .i64 5] 25
  have mB := bB.alloc bB.size (.cells #[.int .i64 a, .int .i64 b, .int .i64 5] 25)
  go_wp2_with (fail)
  generalize (w4.alloc (.cells #[.int .i64 a, .int .i64 b, .int .i64 5] 25)) = w5 at *
  refine (hone.out _).mono ?_
  rintro e w6 ⟨rfl, hb6⟩
  have n1 := rowIs_below m1 hb6 m1.lt
  have n2 := rowIs_below m2 hb6 m2.lt
  have nB := mB.trans (hb6.mono mB.size)
  have a0 : w6.cell? ⟨w.heap.size + 1, 0, none⟩ = some (.int .i64 a) := n1.cell (i := 0) (by simp)
  have a1 : w6.cell? ⟨w.heap.size + 1, 1, none⟩ = some (.int .i64 b) := n1.cell (i := 1) (by simp)
  have a2 : w6.cell? ⟨w.heap.size + 1, 2, none⟩ = some (.int .i64 5) := n1.cell (i := 2) (by simp)
  have b0 : w6.cell? ⟨w4.heap.size, 0, none⟩ = some (.int .i64 a) := n2.cell (i := 0) (by simp)
  have b1 : w6.cell? ⟨w4.heap.size, 1, none⟩ = some (.int .i64 b) := n2.cell (i := 1) (by simp)
  have b2 : w6.cell? ⟨w4.heap.size, 2, none⟩ = some (.int .i64 5) := n2.cell (i := 2) (by simp)
  clear n1 n2 m1 m2 mB hb6 r4 bB hone
  replace nB := Lib.hid nB
  go_wp2_with (fail)
  go_ret
  exact ⟨rfl, nB.out⟩
end Go.Proofs.YtoigijloeillbaaDoor

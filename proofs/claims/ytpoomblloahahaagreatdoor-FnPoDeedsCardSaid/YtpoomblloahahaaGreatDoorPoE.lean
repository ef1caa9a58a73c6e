/- A move in a book's code: the contracts of chess.MoveToPolyglot, impl.move, impl.PolyCode. -/
import Derived.Test.YtpoomblloahahaaGreatDoorPoD
import Derived.Deep.RegionHeld3
import Derived.Deep.Cut
import Derived.Deep.CutRange
namespace Go.Proofs.YtpoomblloahahaaGreatDoor
open Go.ChangeShapes Go.WideShapes Go.ChangeAt Go.RowKit Go.PlainAid
set_option maxHeartbeats 1000000
set_option linter.unusedVariables false
set_option linter.unusedSimpArgs false
attribute [local go_sem] tx_list tx_size bt_tx

theorem file_any (s : Int) (h0 : 0 ≤ s) (h1 : s < 64) (w : World) : Calls Tryz.prog 29 #[.int .i8 s] w fun e w' => e = .returned (.int .i8 (s % 8)) ∧ w = w' := by
  go_enter Tryz.func29, Tryz.ntmps29
  go_wp2
  go_ret
  exact ⟨rfl, rfl⟩
theorem rank_any (s : Int) (h0 : 0 ≤ s) (h1 : s < 64) (w : World) : Calls Tryz.prog 30 #[.int .i8 s] w fun e w' => e = .returned (.int .i8 (s / 8)) ∧ w = w' := by
  have e : IntKind.i8.wrap (s.tdiv 8) = s / 8 := by rw [Int.tdiv_eq_ediv_of_nonneg h0, wrap_small _ (by omega) (by omega)]
  go_enter Tryz.func30, Tryz.ntmps30
  go_wp2
  go_ret
  exact ⟨rfl, rfl⟩
theorem square_any (s : Int) (h0 : 0 ≤ s) (h1 : s < 64) (w : World) : Calls Tryz.prog 21 #[.int .i64 s] w fun e w' => e = .returned (.int .i8 s) ∧ w = w' := by
  have f1 : decide (s < 0) = false := by simp; omega
  have f2 : decide (63 < s) = false := by simp; omega
  go_enter Tryz.func21, Tryz.ntmps21
  go_wp2
  go_ret
  exact ⟨rfl, rfl⟩
/-- The code of what a pawn becomes. -/
def polP (q : Int) : Int := if q = 0 then 0 else 6 - q
theorem promo_any (q : Int) (h : q = 0 ∨ 2 ≤ q ∧ q ≤ 5) (w : World) : Calls Tryz.prog 33 #[.int .i8 q] w fun e w' => e = .returned (.int .i64 (polP q)) ∧ w = w' := by
  have : q = 0 ∨ q = 2 ∨ q = 3 ∨ q = 4 ∨ q = 5 := by omega
  rcases this with rfl | rfl | rfl | rfl | rfl
  all_goals
    go_enter Tryz.func33, Tryz.ntmps33
    go_wp2
    go_ret
    exact ⟨rfl, rfl⟩
theorem andi7 (n : Int) (h0 : 0 ≤ n) (h1 : n < 8) : bits .and .i64 n 7 = n := by
  have : n = 0 ∨ n = 1 ∨ n = 2 ∨ n = 3 ∨ n = 4 ∨ n = 5 ∨ n = 6 ∨ n = 7 := by omega
  rcases this with rfl | rfl | rfl | rfl | rfl | rfl | rfl | rfl
  · exact (by kernel_rfl : bits .and .i64 0 7 = 0)
  · exact (by kernel_rfl : bits .and .i64 1 7 = 1)
  · exact (by kernel_rfl : bits .and .i64 2 7 = 2)
  · exact (by kernel_rfl : bits .and .i64 3 7 = 3)
  · exact (by kernel_rfl : bits .and .i64 4 7 = 4)
  · exact (by kernel_rfl : bits .and .i64 5 7 = 5)
  · exact (by kernel_rfl : bits .and .i64 6 7 = 6)
  · exact (by kernel_rfl : bits .and .i64 7 7 = 7)
set_option maxRecDepth 100000 in
theorem toPoly_any (a b q : Int) (ha : 0 ≤ a ∧ a < 64) (hb : 0 ≤ b ∧ b < 64) (hq : q = 0 ∨ 2 ≤ q ∧ q ≤ 5) (w : World) :
    Calls Tryz.prog 18 #[mvV a b q] w fun e w' => e = .returned (.int .u16 (b + 64 * a + 4096 * polP q)) ∧ Below w.heap.size w w' := by
  have hr := mv_row w a b q
  have hB : Below w.heap.size w (w.alloc (.cells #[Value.pointer none, Value.pointer none, Value.string ⟨#[]⟩, Value.string ⟨#[]⟩, Value.map none, Value.slice none 0 0, Value.int .u64 0, Value.int .u16 0, Value.int .i8 a, Value.int .i8 b, Value.int .i8 q] 57)) := (Below.refl _ _).alloc (Nat.le_refl _) _
  have hp : 0 ≤ polP q ∧ polP q < 8 := by unfold polP; split <;> omega
  have k1 := andi7 (b % 8) (by omega) (by omega)
  have k2 := andi7 (b / 8) (by omega) (by omega)
  have k3 := andi7 (a % 8) (by omega) (by omega)
  have k4 := andi7 (a / 8) (by omega) (by omega)
  have k5 := andi7 (polP q) (by omega) (by omega)
  have o1 : bits .or .u16 0 (b % 8) = b % 8 := by rw [or_add 0 0 (b % 8) (by omega) (by simp) (by omega) (by omega) (by simp) (by simp)]; omega
  have o2 : bits .or .u16 (b % 8) (b / 8 * 8) = b := by rw [or_add 3 _ _ (by omega) (by simp; omega) (by omega) (by omega) (by simp) (by simp)]; omega
  have o3 : bits .or .u16 b (a % 8 * 64) = b + a % 8 * 64 := or_add 6 _ _ (by omega) (by simp; omega) (by omega) (by omega) (by simp) (by simp)
  have o4 : bits .or .u16 (b + a % 8 * 64) (a / 8 * 512) = b + 64 * a := by rw [or_add 9 _ _ (by omega) (by simp; omega) (by omega) (by omega) (by simp) (by simp)]; omega
  have o5 : bits .or .u16 (b + 64 * a) (polP q * 4096) = b + 64 * a + 4096 * polP q := by rw [or_add 12 _ _ (by omega) (by simp; omega) (by omega) (by omega) (by simp) (by simp)]; omega
  have c0 := Lib.hid (fun v (h : v.rowIs w.heap.size 57 11 (mvF a b q 0)) => get0_any w.heap.size a b q 0 v h)
  have c1 := Lib.hid (fun v (h : v.rowIs w.heap.size 57 11 (mvF a b q 0)) => get1_any w.heap.size a b q 0 v h)
  have c2 := Lib.hid (fun v (h : v.rowIs w.heap.size 57 11 (mvF a b q 0)) => get2_any w.heap.size a b q 0 v h)
  have c3 := Lib.hid (promo_any q hq)
  clear hq
  rw [mvV_lit]
  go_enter Tryz.func18, Tryz.ntmps18
  go_upto_region 1 with (fail)
  generalize (w.alloc (.cells #[Value.pointer none, Value.pointer none, Value.string ⟨#[]⟩, Value.string ⟨#[]⟩, Value.map none, Value.slice none 0 0, Value.int .u64 0, Value.int .u16 0, Value.int .i8 a, Value.int .i8 b, Value.int .i8 q] 57)) = w1 at *
  replace hr := Lib.hid hr
  go_wp2_with (first
    | (go_at_call 31; refine (c0.out _ hr.out).mono ?_; rintro e w1 ⟨rfl, rfl⟩)
    | (go_at_call 28; refine (c1.out _ hr.out).mono ?_; rintro e w1 ⟨rfl, rfl⟩)
    | (go_at_call 32; refine (c2.out _ hr.out).mono ?_; rintro e w1 ⟨rfl, rfl⟩)
    | (go_at_call 33; refine (c3.out _).mono ?_; rintro e w1 ⟨rfl, rfl⟩)
    | (go_at_call 29; refine (file_any _ (by omega) (by omega) _).mono ?_; rintro e w1 ⟨rfl, rfl⟩)
    | (go_at_call 30; refine (rank_any _ (by omega) (by omega) _).mono ?_; rintro e w1 ⟨rfl, rfl⟩))
  go_ret
  exact ⟨rfl, hB⟩
def MvPtr (a b q : Int) (w : World) (e : Ending) (w' : World) : Prop :=
  ∃ g, e = .returned (.pointer (some ⟨g, 0, none⟩)) ∧ w.heap.size ≤ g ∧ w'.rowIs g 57 11 (mvF a b q 0) ∧ Below w.heap.size w w'
theorem wrap64 (n : Int) (h0 : 0 ≤ n) (h1 : n < 64) : IntKind.i64.wrap n = n := by
  simp only [IntKind.wrap, IntKind.bits, IntKind.signed]
  simp
  split <;> omega
set_option maxRecDepth 100000 in
theorem move_0 (a b : Int) (ha : 0 ≤ a ∧ a < 64) (hb : 0 ≤ b ∧ b < 64) (w : World) :
    Calls Tryz.prog 10 #[mv3 a b 0] w fun e w' => MvPtr a b 0 w e w' := by
  have hto := Lib.hid (toMove_any (a % 8) (a / 8) (b % 8) (b / 8) 0 (by omega) (by omega) (by omega) (by omega) (by omega))
  rw [show a % 8 + 8 * (a / 8) = a by omega, show b % 8 + 8 * (b / 8) = b by omega, show kindP 0 = 0 from rfl, mvV_lit] at hto
  unfold mv3
  go_enter Tryz.func10, Tryz.ntmps10
  go_upto_region 1 with (fail)
  have k0 := row_lit w #[.int .i64 a, .int .i64 b, .int .i64 0] 33
  have kB : Below w.heap.size w (w.alloc (.cells #[.int .i64 a, .int .i64 b, .int .i64 0] 33)) := (Below.refl _ _).alloc (Nat.le_refl _) _
  have e0 : (a : Int).tmod 8 = a % 8 := Int.tmod_eq_emod_of_nonneg ha.1
  have e1 : (b : Int).tmod 8 = b % 8 := Int.tmod_eq_emod_of_nonneg hb.1
  have e2 : (a : Int).tdiv 8 = a / 8 := Int.tdiv_eq_ediv_of_nonneg ha.1
  have e3 : (b : Int).tdiv 8 = b / 8 := Int.tdiv_eq_ediv_of_nonneg hb.1
  have e4 := wrap64 a ha.1 ha.2
  have e5 := wrap64 b hb.1 hb.2
  have e6 := wrap64 (a / 8) (by omega) (by omega)
  have e7 := wrap64 (b / 8) (by omega) (by omega)
  have c0 : (w.alloc (.cells #[.int .i64 a, .int .i64 b, .int .i64 0] 33)).cell? ⟨w.heap.size, 0, none⟩ = some (.int .i64 a) := k0.cell (i := 0) (by simp)
  have c1 : (w.alloc (.cells #[.int .i64 a, .int .i64 b, .int .i64 0] 33)).cell? ⟨w.heap.size, 1, none⟩ = some (.int .i64 b) := k0.cell (i := 1) (by simp)
  have hsz : (w.alloc (.cells #[.int .i64 a, .int .i64 b, .int .i64 0] 33)).heap.size = w.heap.size + 1 := by simp
  have hlt : w.heap.size < (w.alloc (.cells #[.int .i64 a, .int .i64 b, .int .i64 0] 33)).heap.size := by simp
  generalize (w.alloc (.cells #[.int .i64 a, .int .i64 b, .int .i64 0] 33)) = w1 at *
  go_cut [3] from 5 to 21 (fun v wx => v = .pointer (some ⟨w.heap.size + 1, 0, none⟩) ∧ wx = (w1.alloc (.cells #[.int .i64 (a % 8), .int .i64 (a / 8), .int .i64 (b % 8), .int .i64 (b / 8), .int .i64 0, .bool false] 76)).drew)
  case first =>
    go_region_held3 (fun v => v.cell? ⟨w.heap.size, 0, none⟩ = some (.int .i64 a) ∧ v.cell? ⟨w.heap.size, 1, none⟩ = some (.int .i64 b)) (go_keep) (first | (go_at_call 21; refine (square_any _ ?_ ?_ _).mono ?_; (· omega); (· omega); rintro e w1 ⟨rfl, rfl⟩))
    all_goals
      go_wp2_with (fail)
      go_meet
      exact ⟨rfl, rfl⟩
  case rest =>
    obtain ⟨rfl, rfl⟩ := hcut
    have m0 := row_lit w1 #[.int .i64 (a % 8), .int .i64 (a / 8), .int .i64 (b % 8), .int .i64 (b / 8), .int .i64 0, .bool false] 76
    have m1 := k0.alloc (.cells #[.int .i64 (a % 8), .int .i64 (a / 8), .int .i64 (b % 8), .int .i64 (b / 8), .int .i64 0, .bool false] 76)
    have mB := kB.alloc kB.size (.cells #[.int .i64 (a % 8), .int .i64 (a / 8), .int .i64 (b % 8), .int .i64 (b / 8), .int .i64 0, .bool false] 76)
    rw [hsz] at m0
    have n0 : ((w1.alloc (.cells #[.int .i64 (a % 8), .int .i64 (a / 8), .int .i64 (b % 8), .int .i64 (b / 8), .int .i64 0, .bool false] 76)).drew).rowIs (w.heap.size + 1) 76 6 (fun j => (#[.int .i64 (a % 8), .int .i64 (a / 8), .int .i64 (b % 8), .int .i64 (b / 8), .int .i64 0, .bool false] : Array Value).getD j undef) := m0.of_block rfl
    have n1 : ((w1.alloc (.cells #[.int .i64 (a % 8), .int .i64 (a / 8), .int .i64 (b % 8), .int .i64 (b / 8), .int .i64 0, .bool false] 76)).drew).rowIs w.heap.size 33 3 (fun j => (#[.int .i64 a, .int .i64 b, .int .i64 0] : Array Value).getD j undef) := m1.of_block rfl
    have nB : Below w.heap.size w ((w1.alloc (.cells #[.int .i64 (a % 8), .int .i64 (a / 8), .int .i64 (b % 8), .int .i64 (b / 8), .int .i64 0, .bool false] 76)).drew) := mB.trans ⟨rfl, rfl, rfl, Nat.le_refl _, fun _ _ => rfl⟩
    clear k0 kB c0 c1 hsz hlt m0 m1 mB e0 e1 e2 e3 e4 e5 e6 e7
    generalize (w1.alloc (.cells #[.int .i64 (a % 8), .int .i64 (a / 8), .int .i64 (b % 8), .int .i64 (b / 8), .int .i64 0, .bool false] 76)).drew = w2 at *
    have x2 : w2.cell? ⟨w.heap.size, 2, none⟩ = some (.int .i64 0) := n1.cell (i := 2) (by omega)

    have yf := n0.frozen 4
    go_upto_region 10 with (fail)
    have z0 := n0
    have zB := nB
    generalize w2 = w3 at *
    have z1 : w3.cell? ⟨w.heap.size + 1, 0, none⟩ = some (.int .i64 (a % 8)) := z0.cell (i := 0) (by omega)
    have z2 : w3.cell? ⟨w.heap.size + 1, 1, none⟩ = some (.int .i64 (a / 8)) := z0.cell (i := 1) (by omega)
    have z3 : w3.cell? ⟨w.heap.size + 1, 2, none⟩ = some (.int .i64 (b % 8)) := z0.cell (i := 2) (by omega)
    have z4 : w3.cell? ⟨w.heap.size + 1, 3, none⟩ = some (.int .i64 (b / 8)) := z0.cell (i := 3) (by omega)
    have z5 : w3.cell? ⟨w.heap.size + 1, 4, none⟩ = some (.int .i64 0) := z0.cell (i := 4) (by omega)
    have z6 : w3.cell? ⟨w.heap.size + 1, 5, none⟩ = some (.bool false) := z0.cell (i := 5) (by omega)
    clear z0 n0 n1 nB
    unfold polyV at hto
    go_wp2_with (fail)
    refine (hto.out _).mono ?_
    rintro e w4 ⟨rfl, hb4⟩
    have hB := zB.trans (hb4.mono zB.size)
    clear zB hb4 z1 z2 z3 z4 z5 z6
    have r0 := mv_row w4 a b 0
    have rB := hB.alloc hB.size (.cells #[Value.pointer none, Value.pointer none, Value.string ⟨#[]⟩, Value.string ⟨#[]⟩, Value.map none, Value.slice none 0 0, Value.int .u64 0, Value.int .u16 0, Value.int .i8 a, Value.int .i8 b, Value.int .i8 0] 57)
    have hsz4 := hB.size
    replace r0 := Lib.hid r0
    replace rB := Lib.hid rB
    go_wp2_with (fail)
    go_ret
    exact ⟨_, rfl, hsz4, r0.out, rB.out⟩
set_option maxRecDepth 100000 in
theorem move_1 (a b : Int) (ha : 0 ≤ a ∧ a < 64) (hb : 0 ≤ b ∧ b < 64) (w : World) :
    Calls Tryz.prog 10 #[mv3 a b 2] w fun e w' => MvPtr a b 2 w e w' := by
  have hto := Lib.hid (toMove_any (a % 8) (a / 8) (b % 8) (b / 8) 4 (by omega) (by omega) (by omega) (by omega) (by omega))
  rw [show a % 8 + 8 * (a / 8) = a by omega, show b % 8 + 8 * (b / 8) = b by omega, show kindP 4 = 2 from rfl, mvV_lit] at hto
  unfold mv3
  go_enter Tryz.func10, Tryz.ntmps10
  go_upto_region 1 with (fail)
  have k0 := row_lit w #[.int .i64 a, .int .i64 b, .int .i64 2] 33
  have kB : Below w.heap.size w (w.alloc (.cells #[.int .i64 a, .int .i64 b, .int .i64 2] 33)) := (Below.refl _ _).alloc (Nat.le_refl _) _
  have e0 : (a : Int).tmod 8 = a % 8 := Int.tmod_eq_emod_of_nonneg ha.1
  have e1 : (b : Int).tmod 8 = b % 8 := Int.tmod_eq_emod_of_nonneg hb.1
  have e2 : (a : Int).tdiv 8 = a / 8 := Int.tdiv_eq_ediv_of_nonneg ha.1
  have e3 : (b : Int).tdiv 8 = b / 8 := Int.tdiv_eq_ediv_of_nonneg hb.1
  have e4 := wrap64 a ha.1 ha.2
  have e5 := wrap64 b hb.1 hb.2
  have e6 := wrap64 (a / 8) (by omega) (by omega)
  have e7 := wrap64 (b / 8) (by omega) (by omega)
  have c0 : (w.alloc (.cells #[.int .i64 a, .int .i64 b, .int .i64 2] 33)).cell? ⟨w.heap.size, 0, none⟩ = some (.int .i64 a) := k0.cell (i := 0) (by simp)
  have c1 : (w.alloc (.cells #[.int .i64 a, .int .i64 b, .int .i64 2] 33)).cell? ⟨w.heap.size, 1, none⟩ = some (.int .i64 b) := k0.cell (i := 1) (by simp)
  have hsz : (w.alloc (.cells #[.int .i64 a, .int .i64 b, .int .i64 2] 33)).heap.size = w.heap.size + 1 := by simp
  have hlt : w.heap.size < (w.alloc (.cells #[.int .i64 a, .int .i64 b, .int .i64 2] 33)).heap.size := by simp
  generalize (w.alloc (.cells #[.int .i64 a, .int .i64 b, .int .i64 2] 33)) = w1 at *
  go_cut [3] from 5 to 21 (fun v wx => v = .pointer (some ⟨w.heap.size + 1, 0, none⟩) ∧ wx = (w1.alloc (.cells #[.int .i64 (a % 8), .int .i64 (a / 8), .int .i64 (b % 8), .int .i64 (b / 8), .int .i64 0, .bool false] 76)).drew)
  case first =>
    go_region_held3 (fun v => v.cell? ⟨w.heap.size, 0, none⟩ = some (.int .i64 a) ∧ v.cell? ⟨w.heap.size, 1, none⟩ = some (.int .i64 b)) (go_keep) (first | (go_at_call 21; refine (square_any _ ?_ ?_ _).mono ?_; (· omega); (· omega); rintro e w1 ⟨rfl, rfl⟩))
    all_goals
      go_wp2_with (fail)
      go_meet
      exact ⟨rfl, rfl⟩
  case rest =>
    obtain ⟨rfl, rfl⟩ := hcut
    have m0 := row_lit w1 #[.int .i64 (a % 8), .int .i64 (a / 8), .int .i64 (b % 8), .int .i64 (b / 8), .int .i64 0, .bool false] 76
    have m1 := k0.alloc (.cells #[.int .i64 (a % 8), .int .i64 (a / 8), .int .i64 (b % 8), .int .i64 (b / 8), .int .i64 0, .bool false] 76)
    have mB := kB.alloc kB.size (.cells #[.int .i64 (a % 8), .int .i64 (a / 8), .int .i64 (b % 8), .int .i64 (b / 8), .int .i64 0, .bool false] 76)
    rw [hsz] at m0
    have n0 : ((w1.alloc (.cells #[.int .i64 (a % 8), .int .i64 (a / 8), .int .i64 (b % 8), .int .i64 (b / 8), .int .i64 0, .bool false] 76)).drew).rowIs (w.heap.size + 1) 76 6 (fun j => (#[.int .i64 (a % 8), .int .i64 (a / 8), .int .i64 (b % 8), .int .i64 (b / 8), .int .i64 0, .bool false] : Array Value).getD j undef) := m0.of_block rfl
    have n1 : ((w1.alloc (.cells #[.int .i64 (a % 8), .int .i64 (a / 8), .int .i64 (b % 8), .int .i64 (b / 8), .int .i64 0, .bool false] 76)).drew).rowIs w.heap.size 33 3 (fun j => (#[.int .i64 a, .int .i64 b, .int .i64 2] : Array Value).getD j undef) := m1.of_block rfl
    have nB : Below w.heap.size w ((w1.alloc (.cells #[.int .i64 (a % 8), .int .i64 (a / 8), .int .i64 (b % 8), .int .i64 (b / 8), .int .i64 0, .bool false] 76)).drew) := mB.trans ⟨rfl, rfl, rfl, Nat.le_refl _, fun _ _ => rfl⟩
    clear k0 kB c0 c1 hsz hlt m0 m1 mB e0 e1 e2 e3 e4 e5 e6 e7
    generalize (w1.alloc (.cells #[.int .i64 (a % 8), .int .i64 (a / 8), .int .i64 (b % 8), .int .i64 (b / 8), .int .i64 0, .bool false] 76)).drew = w2 at *
    have x2 : w2.cell? ⟨w.heap.size, 2, none⟩ = some (.int .i64 2) := n1.cell (i := 2) (by omega)
    have y4 : w2.cell? ⟨w.heap.size + 1, 4, none⟩ = some (.int .i64 0) := n0.cell (i := 4) (by omega)
    have yf := n0.frozen 4
    go_upto_region 10 with (fail)
    have z0 := n0.set 4 (.int .i64 4)
    have zB := nB.setCell (p := ⟨w.heap.size + 1, 4, none⟩) (by simp) (.int .i64 4)
    generalize w2.setCell ⟨w.heap.size + 1, 4, none⟩ (.int .i64 4) = w3 at *
    have z1 : w3.cell? ⟨w.heap.size + 1, 0, none⟩ = some (.int .i64 (a % 8)) := z0.cell (i := 0) (by omega)
    have z2 : w3.cell? ⟨w.heap.size + 1, 1, none⟩ = some (.int .i64 (a / 8)) := z0.cell (i := 1) (by omega)
    have z3 : w3.cell? ⟨w.heap.size + 1, 2, none⟩ = some (.int .i64 (b % 8)) := z0.cell (i := 2) (by omega)
    have z4 : w3.cell? ⟨w.heap.size + 1, 3, none⟩ = some (.int .i64 (b / 8)) := z0.cell (i := 3) (by omega)
    have z5 : w3.cell? ⟨w.heap.size + 1, 4, none⟩ = some (.int .i64 4) := z0.cell (i := 4) (by omega)
    have z6 : w3.cell? ⟨w.heap.size + 1, 5, none⟩ = some (.bool false) := z0.cell (i := 5) (by omega)
    clear z0 n0 n1 nB
    unfold polyV at hto
    go_wp2_with (fail)
    refine (hto.out _).mono ?_
    rintro e w4 ⟨rfl, hb4⟩
    have hB := zB.trans (hb4.mono zB.size)
    clear zB hb4 z1 z2 z3 z4 z5 z6
    have r0 := mv_row w4 a b 2
    have rB := hB.alloc hB.size (.cells #[Value.pointer none, Value.pointer none, Value.string ⟨#[]⟩, Value.string ⟨#[]⟩, Value.map none, Value.slice none 0 0, Value.int .u64 0, Value.int .u16 0, Value.int .i8 a, Value.int .i8 b, Value.int .i8 2] 57)
    have hsz4 := hB.size
    replace r0 := Lib.hid r0
    replace rB := Lib.hid rB
    go_wp2_with (fail)
    go_ret
    exact ⟨_, rfl, hsz4, r0.out, rB.out⟩
set_option maxRecDepth 100000 in
theorem move_2 (a b : Int) (ha : 0 ≤ a ∧ a < 64) (hb : 0 ≤ b ∧ b < 64) (w : World) :
    Calls Tryz.prog 10 #[mv3 a b 3] w fun e w' => MvPtr a b 3 w e w' := by
  have hto := Lib.hid (toMove_any (a % 8) (a / 8) (b % 8) (b / 8) 3 (by omega) (by omega) (by omega) (by omega) (by omega))
  rw [show a % 8 + 8 * (a / 8) = a by omega, show b % 8 + 8 * (b / 8) = b by omega, show kindP 3 = 3 from rfl, mvV_lit] at hto
  unfold mv3
  go_enter Tryz.func10, Tryz.ntmps10
  go_upto_region 1 with (fail)
  have k0 := row_lit w #[.int .i64 a, .int .i64 b, .int .i64 3] 33
  have kB : Below w.heap.size w (w.alloc (.cells #[.int .i64 a, .int .i64 b, .int .i64 3] 33)) := (Below.refl _ _).alloc (Nat.le_refl _) _
  have e0 : (a : Int).tmod 8 = a % 8 := Int.tmod_eq_emod_of_nonneg ha.1
  have e1 : (b : Int).tmod 8 = b % 8 := Int.tmod_eq_emod_of_nonneg hb.1
  have e2 : (a : Int).tdiv 8 = a / 8 := Int.tdiv_eq_ediv_of_nonneg ha.1
  have e3 : (b : Int).tdiv 8 = b / 8 := Int.tdiv_eq_ediv_of_nonneg hb.1
  have e4 := wrap64 a ha.1 ha.2
  have e5 := wrap64 b hb.1 hb.2
  have e6 := wrap64 (a / 8) (by omega) (by omega)
  have e7 := wrap64 (b / 8) (by omega) (by omega)
  have c0 : (w.alloc (.cells #[.int .i64 a, .int .i64 b, .int .i64 3] 33)).cell? ⟨w.heap.size, 0, none⟩ = some (.int .i64 a) := k0.cell (i := 0) (by simp)
  have c1 : (w.alloc (.cells #[.int .i64 a, .int .i64 b, .int .i64 3] 33)).cell? ⟨w.heap.size, 1, none⟩ = some (.int .i64 b) := k0.cell (i := 1) (by simp)
  have hsz : (w.alloc (.cells #[.int .i64 a, .int .i64 b, .int .i64 3] 33)).heap.size = w.heap.size + 1 := by simp
  have hlt : w.heap.size < (w.alloc (.cells #[.int .i64 a, .int .i64 b, .int .i64 3] 33)).heap.size := by simp
  generalize (w.alloc (.cells #[.int .i64 a, .int .i64 b, .int .i64 3] 33)) = w1 at *
  go_cut [3] from 5 to 21 (fun v wx => v = .pointer (some ⟨w.heap.size + 1, 0, none⟩) ∧ wx = (w1.alloc (.cells #[.int .i64 (a % 8), .int .i64 (a / 8), .int .i64 (b % 8), .int .i64 (b / 8), .int .i64 0, .bool false] 76)).drew)
  case first =>
    go_region_held3 (fun v => v.cell? ⟨w.heap.size, 0, none⟩ = some (.int .i64 a) ∧ v.cell? ⟨w.heap.size, 1, none⟩ = some (.int .i64 b)) (go_keep) (first | (go_at_call 21; refine (square_any _ ?_ ?_ _).mono ?_; (· omega); (· omega); rintro e w1 ⟨rfl, rfl⟩))
    all_goals
      go_wp2_with (fail)
      go_meet
      exact ⟨rfl, rfl⟩
  case rest =>
    obtain ⟨rfl, rfl⟩ := hcut
    have m0 := row_lit w1 #[.int .i64 (a % 8), .int .i64 (a / 8), .int .i64 (b % 8), .int .i64 (b / 8), .int .i64 0, .bool false] 76
    have m1 := k0.alloc (.cells #[.int .i64 (a % 8), .int .i64 (a / 8), .int .i64 (b % 8), .int .i64 (b / 8), .int .i64 0, .bool false] 76)
    have mB := kB.alloc kB.size (.cells #[.int .i64 (a % 8), .int .i64 (a / 8), .int .i64 (b % 8), .int .i64 (b / 8), .int .i64 0, .bool false] 76)
    rw [hsz] at m0
    have n0 : ((w1.alloc (.cells #[.int .i64 (a % 8), .int .i64 (a / 8), .int .i64 (b % 8), .int .i64 (b / 8), .int .i64 0, .bool false] 76)).drew).rowIs (w.heap.size + 1) 76 6 (fun j => (#[.int .i64 (a % 8), .int .i64 (a / 8), .int .i64 (b % 8), .int .i64 (b / 8), .int .i64 0, .bool false] : Array Value).getD j undef) := m0.of_block rfl
    have n1 : ((w1.alloc (.cells #[.int .i64 (a % 8), .int .i64 (a / 8), .int .i64 (b % 8), .int .i64 (b / 8), .int .i64 0, .bool false] 76)).drew).rowIs w.heap.size 33 3 (fun j => (#[.int .i64 a, .int .i64 b, .int .i64 3] : Array Value).getD j undef) := m1.of_block rfl
    have nB : Below w.heap.size w ((w1.alloc (.cells #[.int .i64 (a % 8), .int .i64 (a / 8), .int .i64 (b % 8), .int .i64 (b / 8), .int .i64 0, .bool false] 76)).drew) := mB.trans ⟨rfl, rfl, rfl, Nat.le_refl _, fun _ _ => rfl⟩
    clear k0 kB c0 c1 hsz hlt m0 m1 mB e0 e1 e2 e3 e4 e5 e6 e7
    generalize (w1.alloc (.cells #[.int .i64 (a % 8), .int .i64 (a / 8), .int .i64 (b % 8), .int .i64 (b / 8), .int .i64 0, .bool false] 76)).drew = w2 at *
    have x2 : w2.cell? ⟨w.heap.size, 2, none⟩ = some (.int .i64 3) := n1.cell (i := 2) (by omega)
    have y4 : w2.cell? ⟨w.heap.size + 1, 4, none⟩ = some (.int .i64 0) := n0.cell (i := 4) (by omega)
    have yf := n0.frozen 4
    go_upto_region 10 with (fail)
    have z0 := n0.set 4 (.int .i64 3)
    have zB := nB.setCell (p := ⟨w.heap.size + 1, 4, none⟩) (by simp) (.int .i64 3)
    generalize w2.setCell ⟨w.heap.size + 1, 4, none⟩ (.int .i64 3) = w3 at *
    have z1 : w3.cell? ⟨w.heap.size + 1, 0, none⟩ = some (.int .i64 (a % 8)) := z0.cell (i := 0) (by omega)
    have z2 : w3.cell? ⟨w.heap.size + 1, 1, none⟩ = some (.int .i64 (a / 8)) := z0.cell (i := 1) (by omega)
    have z3 : w3.cell? ⟨w.heap.size + 1, 2, none⟩ = some (.int .i64 (b % 8)) := z0.cell (i := 2) (by omega)
    have z4 : w3.cell? ⟨w.heap.size + 1, 3, none⟩ = some (.int .i64 (b / 8)) := z0.cell (i := 3) (by omega)
    have z5 : w3.cell? ⟨w.heap.size + 1, 4, none⟩ = some (.int .i64 3) := z0.cell (i := 4) (by omega)
    have z6 : w3.cell? ⟨w.heap.size + 1, 5, none⟩ = some (.bool false) := z0.cell (i := 5) (by omega)
    clear z0 n0 n1 nB
    unfold polyV at hto
    go_wp2_with (fail)
    refine (hto.out _).mono ?_
    rintro e w4 ⟨rfl, hb4⟩
    have hB := zB.trans (hb4.mono zB.size)
    clear zB hb4 z1 z2 z3 z4 z5 z6
    have r0 := mv_row w4 a b 3
    have rB := hB.alloc hB.size (.cells #[Value.pointer none, Value.pointer none, Value.string ⟨#[]⟩, Value.string ⟨#[]⟩, Value.map none, Value.slice none 0 0, Value.int .u64 0, Value.int .u16 0, Value.int .i8 a, Value.int .i8 b, Value.int .i8 3] 57)
    have hsz4 := hB.size
    replace r0 := Lib.hid r0
    replace rB := Lib.hid rB
    go_wp2_with (fail)
    go_ret
    exact ⟨_, rfl, hsz4, r0.out, rB.out⟩
set_option maxRecDepth 100000 in
theorem move_3 (a b : Int) (ha : 0 ≤ a ∧ a < 64) (hb : 0 ≤ b ∧ b < 64) (w : World) :
    Calls Tryz.prog 10 #[mv3 a b 4] w fun e w' => MvPtr a b 4 w e w' := by
  have hto := Lib.hid (toMove_any (a % 8) (a / 8) (b % 8) (b / 8) 2 (by omega) (by omega) (by omega) (by omega) (by omega))
  rw [show a % 8 + 8 * (a / 8) = a by omega, show b % 8 + 8 * (b / 8) = b by omega, show kindP 2 = 4 from rfl, mvV_lit] at hto
  unfold mv3
  go_enter Tryz.func10, Tryz.ntmps10
  go_upto_region 1 with (fail)
  have k0 := row_lit w #[.int .i64 a, .int .i64 b, .int .i64 4] 33
  have kB : Below w.heap.size w (w.alloc (.cells #[.int .i64 a, .int .i64 b, .int .i64 4] 33)) := (Below.refl _ _).alloc (Nat.le_refl _) _
  have e0 : (a : Int).tmod 8 = a % 8 := Int.tmod_eq_emod_of_nonneg ha.1
  have e1 : (b : Int).tmod 8 = b % 8 := Int.tmod_eq_emod_of_nonneg hb.1
  have e2 : (a : Int).tdiv 8 = a / 8 := Int.tdiv_eq_ediv_of_nonneg ha.1
  have e3 : (b : Int).tdiv 8 = b / 8 := Int.tdiv_eq_ediv_of_nonneg hb.1
  have e4 := wrap64 a ha.1 ha.2
  have e5 := wrap64 b hb.1 hb.2
  have e6 := wrap64 (a / 8) (by omega) (by omega)
  have e7 := wrap64 (b / 8) (by omega) (by omega)
  have c0 : (w.alloc (.cells #[.int .i64 a, .int .i64 b, .int .i64 4] 33)).cell? ⟨w.heap.size, 0, none⟩ = some (.int .i64 a) := k0.cell (i := 0) (by simp)
  have c1 : (w.alloc (.cells #[.int .i64 a, .int .i64 b, .int .i64 4] 33)).cell? ⟨w.heap.size, 1, none⟩ = some (.int .i64 b) := k0.cell (i := 1) (by simp)
  have hsz : (w.alloc (.cells #[.int .i64 a, .int .i64 b, .int .i64 4] 33)).heap.size = w.heap.size + 1 := by simp
  have hlt : w.heap.size < (w.alloc (.cells #[.int .i64 a, .int .i64 b, .int .i64 4] 33)).heap.size := by simp
  generalize (w.alloc (.cells #[.int .i64 a, .int .i64 b, .int .i64 4] 33)) = w1 at *
  go_cut [3] from 5 to 21 (fun v wx => v = .pointer (some ⟨w.heap.size + 1, 0, none⟩) ∧ wx = (w1.alloc (.cells #[.int .i64 (a % 8), .int .i64 (a / 8), .int .i64 (b % 8), .int .i64 (b / 8), .int .i64 0, .bool false] 76)).drew)
  case first =>
    go_region_held3 (fun v => v.cell? ⟨w.heap.size, 0, none⟩ = some (.int .i64 a) ∧ v.cell? ⟨w.heap.size, 1, none⟩ = some (.int .i64 b)) (go_keep) (first | (go_at_call 21; refine (square_any _ ?_ ?_ _).mono ?_; (· omega); (· omega); rintro e w1 ⟨rfl, rfl⟩))
    all_goals
      go_wp2_with (fail)
      go_meet
      exact ⟨rfl, rfl⟩
  case rest =>
    obtain ⟨rfl, rfl⟩ := hcut
    have m0 := row_lit w1 #[.int .i64 (a % 8), .int .i64 (a / 8), .int .i64 (b % 8), .int .i64 (b / 8), .int .i64 0, .bool false] 76
    have m1 := k0.alloc (.cells #[.int .i64 (a % 8), .int .i64 (a / 8), .int .i64 (b % 8), .int .i64 (b / 8), .int .i64 0, .bool false] 76)
    have mB := kB.alloc kB.size (.cells #[.int .i64 (a % 8), .int .i64 (a / 8), .int .i64 (b % 8), .int .i64 (b / 8), .int .i64 0, .bool false] 76)
    rw [hsz] at m0
    have n0 : ((w1.alloc (.cells #[.int .i64 (a % 8), .int .i64 (a / 8), .int .i64 (b % 8), .int .i64 (b / 8), .int .i64 0, .bool false] 76)).drew).rowIs (w.heap.size + 1) 76 6 (fun j => (#[.int .i64 (a % 8), .int .i64 (a / 8), .int .i64 (b % 8), .int .i64 (b / 8), .int .i64 0, .bool false] : Array Value).getD j undef) := m0.of_block rfl
    have n1 : ((w1.alloc (.cells #[.int .i64 (a % 8), .int .i64 (a / 8), .int .i64 (b % 8), .int .i64 (b / 8), .int .i64 0, .bool false] 76)).drew).rowIs w.heap.size 33 3 (fun j => (#[.int .i64 a, .int .i64 b, .int .i64 4] : Array Value).getD j undef) := m1.of_block rfl
    have nB : Below w.heap.size w ((w1.alloc (.cells #[.int .i64 (a % 8), .int .i64 (a / 8), .int .i64 (b % 8), .int .i64 (b / 8), .int .i64 0, .bool false] 76)).drew) := mB.trans ⟨rfl, rfl, rfl, Nat.le_refl _, fun _ _ => rfl⟩
    clear k0 kB c0 c1 hsz hlt m0 m1 mB e0 e1 e2 e3 e4 e5 e6 e7
    generalize (w1.alloc (.cells #[.int .i64 (a % 8), .int .i64 (a / 8), .int .i64 (b % 8), .int .i64 (b / 8), .int .i64 0, .bool false] 76)).drew = w2 at *
    have x2 : w2.cell? ⟨w.heap.size, 2, none⟩ = some (.int .i64 4) := n1.cell (i := 2) (by omega)
    have y4 : w2.cell? ⟨w.heap.size + 1, 4, none⟩ = some (.int .i64 0) := n0.cell (i := 4) (by omega)
    have yf := n0.frozen 4
    go_upto_region 10 with (fail)
    have z0 := n0.set 4 (.int .i64 2)
    have zB := nB.setCell (p := ⟨w.heap.size + 1, 4, none⟩) (by simp) (.int .i64 2)
    generalize w2.setCell ⟨w.heap.size + 1, 4, none⟩ (.int .i64 2) = w3 at *
    have z1 : w3.cell? ⟨w.heap.size + 1, 0, none⟩ = some (.int .i64 (a % 8)) := z0.cell (i := 0) (by omega)
    have z2 : w3.cell? ⟨w.heap.size + 1, 1, none⟩ = some (.int .i64 (a / 8)) := z0.cell (i := 1) (by omega)
    have z3 : w3.cell? ⟨w.heap.size + 1, 2, none⟩ = some (.int .i64 (b % 8)) := z0.cell (i := 2) (by omega)
    have z4 : w3.cell? ⟨w.heap.size + 1, 3, none⟩ = some (.int .i64 (b / 8)) := z0.cell (i := 3) (by omega)
    have z5 : w3.cell? ⟨w.heap.size + 1, 4, none⟩ = some (.int .i64 2) := z0.cell (i := 4) (by omega)
    have z6 : w3.cell? ⟨w.heap.size + 1, 5, none⟩ = some (.bool false) := z0.cell (i := 5) (by omega)
    clear z0 n0 n1 nB
    unfold polyV at hto
    go_wp2_with (fail)
    refine (hto.out _).mono ?_
    rintro e w4 ⟨rfl, hb4⟩
    have hB := zB.trans (hb4.mono zB.size)
    clear zB hb4 z1 z2 z3 z4 z5 z6
    have r0 := mv_row w4 a b 4
    have rB := hB.alloc hB.size (.cells #[Value.pointer none, Value.pointer none, Value.string ⟨#[]⟩, Value.string ⟨#[]⟩, Value.map none, Value.slice none 0 0, Value.int .u64 0, Value.int .u16 0, Value.int .i8 a, Value.int .i8 b, Value.int .i8 4] 57)
    have hsz4 := hB.size
    replace r0 := Lib.hid r0
    replace rB := Lib.hid rB
    go_wp2_with (fail)
    go_ret
    exact ⟨_, rfl, hsz4, r0.out, rB.out⟩
set_option maxRecDepth 100000 in
theorem move_4 (a b : Int) (ha : 0 ≤ a ∧ a < 64) (hb : 0 ≤ b ∧ b < 64) (w : World) :
    Calls Tryz.prog 10 #[mv3 a b 5] w fun e w' => MvPtr a b 5 w e w' := by
  have hto := Lib.hid (toMove_any (a % 8) (a / 8) (b % 8) (b / 8) 1 (by omega) (by omega) (by omega) (by omega) (by omega))
  rw [show a % 8 + 8 * (a / 8) = a by omega, show b % 8 + 8 * (b / 8) = b by omega, show kindP 1 = 5 from rfl, mvV_lit] at hto
  unfold mv3
  go_enter Tryz.func10, Tryz.ntmps10
  go_upto_region 1 with (fail)
  have k0 := row_lit w #[.int .i64 a, .int .i64 b, .int .i64 5] 33
  have kB : Below w.heap.size w (w.alloc (.cells #[.int .i64 a, .int .i64 b, .int .i64 5] 33)) := (Below.refl _ _).alloc (Nat.le_refl _) _
  have e0 : (a : Int).tmod 8 = a % 8 := Int.tmod_eq_emod_of_nonneg ha.1
  have e1 : (b : Int).tmod 8 = b % 8 := Int.tmod_eq_emod_of_nonneg hb.1
  have e2 : (a : Int).tdiv 8 = a / 8 := Int.tdiv_eq_ediv_of_nonneg ha.1
  have e3 : (b : Int).tdiv 8 = b / 8 := Int.tdiv_eq_ediv_of_nonneg hb.1
  have e4 := wrap64 a ha.1 ha.2
  have e5 := wrap64 b hb.1 hb.2
  have e6 := wrap64 (a / 8) (by omega) (by omega)
  have e7 := wrap64 (b / 8) (by omega) (by omega)
  have c0 : (w.alloc (.cells #[.int .i64 a, .int .i64 b, .int .i64 5] 33)).cell? ⟨w.heap.size, 0, none⟩ = some (.int .i64 a) := k0.cell (i := 0) (by simp)
  have c1 : (w.alloc (.cells #[.int .i64 a, .int .i64 b, .int .i64 5] 33)).cell? ⟨w.heap.size, 1, none⟩ = some (.int .i64 b) := k0.cell (i := 1) (by simp)
  have hsz : (w.alloc (.cells #[.int .i64 a, .int .i64 b, .int .i64 5] 33)).heap.size = w.heap.size + 1 := by simp
  have hlt : w.heap.size < (w.alloc (.cells #[.int .i64 a, .int .i64 b, .int .i64 5] 33)).heap.size := by simp
  generalize (w.alloc (.cells #[.int .i64 a, .int .i64 b, .int .i64 5] 33)) = w1 at *
  go_cut [3] from 5 to 21 (fun v wx => v = .pointer (some ⟨w.heap.size + 1, 0, none⟩) ∧ wx = (w1.alloc (.cells #[.int .i64 (a % 8), .int .i64 (a / 8), .int .i64 (b % 8), .int .i64 (b / 8), .int .i64 0, .bool false] 76)).drew)
  case first =>
    go_region_held3 (fun v => v.cell? ⟨w.heap.size, 0, none⟩ = some (.int .i64 a) ∧ v.cell? ⟨w.heap.size, 1, none⟩ = some (.int .i64 b)) (go_keep) (first | (go_at_call 21; refine (square_any _ ?_ ?_ _).mono ?_; (· omega); (· omega); rintro e w1 ⟨rfl, rfl⟩))
    all_goals
      go_wp2_with (fail)
      go_meet
      exact ⟨rfl, rfl⟩
  case rest =>
    obtain ⟨rfl, rfl⟩ := hcut
    have m0 := row_lit w1 #[.int .i64 (a % 8), .int .i64 (a / 8), .int .i64 (b % 8), .int .i64 (b / 8), .int .i64 0, .bool false] 76
    have m1 := k0.alloc (.cells #[.int .i64 (a % 8), .int .i64 (a / 8), .int .i64 (b % 8), .int .i64 (b / 8), .int .i64 0, .bool false] 76)
    have mB := kB.alloc kB.size (.cells #[.int .i64 (a % 8), .int .i64 (a / 8), .int .i64 (b % 8), .int .i64 (b / 8), .int .i64 0, .bool false] 76)
    rw [hsz] at m0
    have n0 : ((w1.alloc (.cells #[.int .i64 (a % 8), .int .i64 (a / 8), .int .i64 (b % 8), .int .i64 (b / 8), .int .i64 0, .bool false] 76)).drew).rowIs (w.heap.size + 1) 76 6 (fun j => (#[.int .i64 (a % 8), .int .i64 (a / 8), .int .i64 (b % 8), .int .i64 (b / 8), .int .i64 0, .bool false] : Array Value).getD j undef) := m0.of_block rfl
    have n1 : ((w1.alloc (.cells #[.int .i64 (a % 8), .int .i64 (a / 8), .int .i64 (b % 8), .int .i64 (b / 8), .int .i64 0, .bool false] 76)).drew).rowIs w.heap.size 33 3 (fun j => (#[.int .i64 a, .int .i64 b, .int .i64 5] : Array Value).getD j undef) := m1.of_block rfl
    have nB : Below w.heap.size w ((w1.alloc (.cells #[.int .i64 (a % 8), .int .i64 (a / 8), .int .i64 (b % 8), .int .i64 (b / 8), .int .i64 0, .bool false] 76)).drew) := mB.trans ⟨rfl, rfl, rfl, Nat.le_refl _, fun _ _ => rfl⟩
    clear k0 kB c0 c1 hsz hlt m0 m1 mB e0 e1 e2 e3 e4 e5 e6 e7
    generalize (w1.alloc (.cells #[.int .i64 (a % 8), .int .i64 (a / 8), .int .i64 (b % 8), .int .i64 (b / 8), .int .i64 0, .bool false] 76)).drew = w2 at *
    have x2 : w2.cell? ⟨w.heap.size, 2, none⟩ = some (.int .i64 5) := n1.cell (i := 2) (by omega)
    have y4 : w2.cell? ⟨w.heap.size + 1, 4, none⟩ = some (.int .i64 0) := n0.cell (i := 4) (by omega)
    have yf := n0.frozen 4
    go_upto_region 10 with (fail)
    have z0 := n0.set 4 (.int .i64 1)
    have zB := nB.setCell (p := ⟨w.heap.size + 1, 4, none⟩) (by simp) (.int .i64 1)
    generalize w2.setCell ⟨w.heap.size + 1, 4, none⟩ (.int .i64 1) = w3 at *
    have z1 : w3.cell? ⟨w.heap.size + 1, 0, none⟩ = some (.int .i64 (a % 8)) := z0.cell (i := 0) (by omega)
    have z2 : w3.cell? ⟨w.heap.size + 1, 1, none⟩ = some (.int .i64 (a / 8)) := z0.cell (i := 1) (by omega)
    have z3 : w3.cell? ⟨w.heap.size + 1, 2, none⟩ = some (.int .i64 (b % 8)) := z0.cell (i := 2) (by omega)
    have z4 : w3.cell? ⟨w.heap.size + 1, 3, none⟩ = some (.int .i64 (b / 8)) := z0.cell (i := 3) (by omega)
    have z5 : w3.cell? ⟨w.heap.size + 1, 4, none⟩ = some (.int .i64 1) := z0.cell (i := 4) (by omega)
    have z6 : w3.cell? ⟨w.heap.size + 1, 5, none⟩ = some (.bool false) := z0.cell (i := 5) (by omega)
    clear z0 n0 n1 nB
    unfold polyV at hto
    go_wp2_with (fail)
    refine (hto.out _).mono ?_
    rintro e w4 ⟨rfl, hb4⟩
    have hB := zB.trans (hb4.mono zB.size)
    clear zB hb4 z1 z2 z3 z4 z5 z6
    have r0 := mv_row w4 a b 5
    have rB := hB.alloc hB.size (.cells #[Value.pointer none, Value.pointer none, Value.string ⟨#[]⟩, Value.string ⟨#[]⟩, Value.map none, Value.slice none 0 0, Value.int .u64 0, Value.int .u16 0, Value.int .i8 a, Value.int .i8 b, Value.int .i8 5] 57)
    have hsz4 := hB.size
    replace r0 := Lib.hid r0
    replace rB := Lib.hid rB
    go_wp2_with (fail)
    go_ret
    exact ⟨_, rfl, hsz4, r0.out, rB.out⟩
theorem move_any (a b q : Int) (ha : 0 ≤ a ∧ a < 64) (hb : 0 ≤ b ∧ b < 64) (hq : q = 0 ∨ 2 ≤ q ∧ q ≤ 5) (w : World) :
    Calls Tryz.prog 10 #[mv3 a b q] w fun e w' => MvPtr a b q w e w' := by
  have : q = 0 ∨ q = 2 ∨ q = 3 ∨ q = 4 ∨ q = 5 := by omega
  rcases this with rfl | rfl | rfl | rfl | rfl
  · exact move_0 a b ha hb w
  · exact move_1 a b ha hb w
  · exact move_2 a b ha hb w
  · exact move_3 a b ha hb w
  · exact move_4 a b ha hb w
end Go.Proofs.YtpoomblloahahaaGreatDoor

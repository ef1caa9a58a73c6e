/- The rules' moves, weakly: the rights that a move leaves. -/
import Derived.Test.YthdbgjhonnogpaaDoorMvC
namespace Go.Proofs.YthdbgjhonnogpaaDoor
open Go.ChangeShapes Go.WideShapes Go.ChangeAt Go.RowKit Plain
set_option maxHeartbeats 4000000
set_option linter.unusedVariables false
set_option linter.unusedSimpArgs false

set_option maxRecDepth 100000 in
theorem left_any (x : Int) (a b : Nat) (ha : a < 64) (hb : b < 64) (q : Int) (w : World) :
    Calls Tryd.prog 50 #[.int .i64 x, mvI (a : Int) (b : Int) q] w fun e w' => (∃ y : Int, e = .returned (.int .i64 y)) ∧ Below w.heap.size w w' := by
  have hB : Below w.heap.size w (w.alloc (.cells #[.int .i64 (a : Int), .int .i64 (b : Int), .int .i64 q] 58)) := (Below.refl _ _).alloc (Nat.le_refl _) _
  have hm := World.rowIs_alloc w #[.int .i64 (a : Int), .int .i64 (b : Int), .int .i64 q] 58 (fun j => (#[.int .i64 (a : Int), .int .i64 (b : Int), .int .i64 q] : Array Value).getD j undef) (fun j hj => by (have hj : j < 3 := hj); (have : j = 0 ∨ j = 1 ∨ j = 2 := (by omega)); rcases this with rfl | rfl | rfl <;> rfl)
  unfold mvI
  go_enter Tryd.func50, Tryd.ntmps50
  go_upto_region 1 with (fail)
  generalize (w.alloc (.cells #[.int .i64 (a : Int), .int .i64 (b : Int), .int .i64 q] 58)) = w1 at *
  have ca : w1.cell? ⟨w.heap.size, 0, none⟩ = some (.int .i64 (a : Int)) := hm.cell (i := 0) (by simp)
  have cb : w1.cell? ⟨w.heap.size, 1, none⟩ = some (.int .i64 (b : Int)) := hm.cell (i := 1) (by simp)
  clear hm
  go_wp2_with (fail)
  go_loopw [0, 5] (fun y i wr => ∃ (z : Int) (k : Nat), y = .int .i64 z ∧ k ≤ 4 ∧ i = .int .i64 (k : Int) ∧ wr = w1) (fun _ i _ => 4 - (intOf i).toNat)
  case atStart => exact ⟨x, 0, rfl, by omega, rfl, rfl⟩
  case round =>
    obtain ⟨z, k, rfl, hk, rfl, rfl⟩ := hrel
    by_cases hlt : k < 4
    · have hd : decide ((k : Int) < 4) = true := decide_eq_true (by omega)
      have hho := Lib.hid (home_any k hlt)
      go_upto_region 5 with (go_at_call 45; refine (hho.out _).mono ?_; rintro e w' ⟨rfl, rfl⟩)
      generalize (homeK k : Int) = K1 at *
      generalize (homeR k : Int) = R1 at *
      clear hho
      go_cut [45] from 12 to 45 (fun x wx => (∃ b, x = .bool b) ∧ wx = wr)
      case first =>
        cases k1 : ((a : Int) == K1) <;> cases k2 : ((a : Int) == R1) <;> cases k3 : ((b : Int) == K1) <;> cases k4 : ((b : Int) == R1)
        all_goals
          go_wp2_with (fail)
          all_goals
            go_meet
            exact ⟨⟨_, rfl⟩, rfl⟩
      case rest =>
        obtain ⟨⟨b9, rfl⟩, rfl⟩ := hcut
        cases b9
        · go_wp2_with (fail)
          exact ⟨⟨z, k + 1, rfl, by omega, by go_num, by trivial⟩, by simp [intOf]; omega⟩
        · go_wp2_with (fail)
          exact ⟨⟨_, k + 1, rfl, by omega, by go_num, by trivial⟩, by simp [intOf]; omega⟩
    · obtain rfl : k = 4 := by omega
      go_wp2_with (fail)
      go_ret
      exact ⟨⟨_, rfl⟩, hB⟩
end Go.Proofs.YthdbgjhonnogpaaDoor

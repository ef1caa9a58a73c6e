/- The rules' moves, weakly: what a move takes, and the rights it leaves. -/
import Derived.Test.YthdbgjhonnogpaaDoorMvB
import Derived.BigQuiet
namespace Go.Proofs.YthdbgjhonnogpaaDoor
open Go.ChangeShapes Go.WideShapes Go.ChangeAt Go.RowKit Plain
set_option maxHeartbeats 4000000
set_option linter.unusedVariables false
set_option linter.unusedSimpArgs false

def mvI (a b q : Int) : Value := .agg #[.int .i64 a, .int .i64 b, .int .i64 q]
set_option maxRecDepth 100000 in
theorem takes_any (g : Nat → Int) (hg : ∀ i, i < 64 → 0 ≤ g i ∧ g i ≤ 12) (a b : Nat) (ha : a < 64) (hb : b < 64) (q : Int) (w : World) :
    Calls Tryd.prog 49 #[intRow 69 g, mvI (a : Int) (b : Int) q] w fun e w' => (∃ (t : Int) (is : Bool), e = .returned (.tuple #[.int .i64 t, .bool is]) ∧ (is = true → 0 ≤ t ∧ t < 64)) ∧ Below w.heap.size w w' := by
  have hr := (rowIs_new w 24 69 (fun i => .int .i64 (g i))).alloc (.cells #[.int .i64 (a : Int), .int .i64 (b : Int), .int .i64 q] 58)
  have hB : Below w.heap.size w ((w.alloc (.cells (rowArr 69 fun i => .int .i64 (g i)) 24)).alloc (.cells #[.int .i64 (a : Int), .int .i64 (b : Int), .int .i64 q] 58)) := ((Below.refl _ _).alloc (Nat.le_refl _) _).alloc (by simp) _
  have hm := World.rowIs_alloc (w.alloc (.cells (rowArr 69 fun i => .int .i64 (g i)) 24)) #[.int .i64 (a : Int), .int .i64 (b : Int), .int .i64 q] 58 (fun j => (#[.int .i64 (a : Int), .int .i64 (b : Int), .int .i64 q] : Array Value).getD j undef) (fun j hj => by (have hj : j < 3 := hj); (have : j = 0 ∨ j = 1 ∨ j = 2 := (by omega)); rcases this with rfl | rfl | rfl <;> rfl)
  rw [World.size_alloc] at hm
  have hga := hg a ha
  unfold intRow mvI
  go_enter Tryd.func49, Tryd.ntmps49
  go_upto_region 1 with (fail)
  generalize ((w.alloc (.cells (rowArr 69 fun i => .int .i64 (g i)) 24)).alloc (.cells #[.int .i64 (a : Int), .int .i64 (b : Int), .int .i64 q] 58)) = w1 at *
  have ca : w1.cell? ⟨w.heap.size + 1, 0, none⟩ = some (.int .i64 (a : Int)) := hm.cell (i := 0) (by simp)
  have cb : w1.cell? ⟨w.heap.size + 1, 1, none⟩ = some (.int .i64 (b : Int)) := hm.cell (i := 1) (by simp)
  have xa : w1.cell? ⟨w.heap.size, a, none⟩ = some (.int .i64 (g a)) := hr.cell (i := a) (by omega)
  have xb : w1.cell? ⟨w.heap.size, b, none⟩ = some (.int .i64 (g b)) := hr.cell (i := b) (by omega)
  have hal : (a : Int) < 64 := by omega
  have hbl : (b : Int) < 64 := by omega
  have hk := Lib.hid (kindOf_any (g a) hga.1 (by omega))
  have hat : 0 ≤ atOf ((b : Int) % 8) ((a : Int) / 8) ∧ atOf ((b : Int) % 8) ((a : Int) / 8) < 64 := by
    unfold atOf; rw [if_pos (by omega)]; omega
  replace hat := Lib.hid hat
  clear hm hr
  cases hz : (g b != 0)
  · cases h6 : (kindOf (g a) == 6)
    · go_wp2_with (fail)
      go_quiet (first | ((go_at_call 22; exact q_of (hk.out _))) | ((go_at_call 24; exact q_of (file_any _ (by omega) (by omega) _))) | ((go_at_call 8; exact q_of (rank_any _ (by omega) (by omega) _))) | ((go_at_call 23; exact q_of (at_any _ _ (by omega) (by omega) (by omega) (by omega) _))))
      go_wp2_with (fail)
      go_ret2
      exact ⟨⟨_, _, rfl, fun h => by cases h⟩, hB.trans ⟨rfl, rfl, rfl, Nat.le_refl _, fun _ _ => rfl⟩⟩
    · cases hf : ((a : Int) % 8 != (b : Int) % 8)
      · go_wp2_with (fail)
        go_quiet (first | ((go_at_call 22; exact q_of (hk.out _))) | ((go_at_call 24; exact q_of (file_any _ (by omega) (by omega) _))) | ((go_at_call 8; exact q_of (rank_any _ (by omega) (by omega) _))) | ((go_at_call 23; exact q_of (at_any _ _ (by omega) (by omega) (by omega) (by omega) _))))
        go_wp2_with (fail)
        go_ret2
        exact ⟨⟨_, _, rfl, fun h => by cases h⟩, hB.trans ⟨rfl, rfl, rfl, Nat.le_refl _, fun _ _ => rfl⟩⟩
      · go_wp2_with (fail)
        go_quiet (first | ((go_at_call 22; exact q_of (hk.out _))) | ((go_at_call 24; exact q_of (file_any _ (by omega) (by omega) _))) | ((go_at_call 8; exact q_of (rank_any _ (by omega) (by omega) _))) | ((go_at_call 23; exact q_of (at_any _ _ (by omega) (by omega) (by omega) (by omega) _))))
        go_upto_region 4 with (fail)
        generalize hw2 : w1.drewN nq = w2 at *
        have hB2 : Below w.heap.size w w2 := by rw [← hw2]; exact hB.trans ⟨rfl, rfl, rfl, Nat.le_refl _, fun _ _ => rfl⟩
        replace ca : w2.cell? ⟨w.heap.size + 1, 0, none⟩ = some (.int .i64 (a : Int)) := by rw [← hw2]; exact ca
        replace cb : w2.cell? ⟨w.heap.size + 1, 1, none⟩ = some (.int .i64 (b : Int)) := by rw [← hw2]; exact cb
        clear hw2 xa xb hB hf h6 hz
        go_quiet (first | ((go_at_call 22; exact q_of (hk.out _))) | ((go_at_call 24; exact q_of (file_any _ (by omega) (by omega) _))) | ((go_at_call 8; exact q_of (rank_any _ (by omega) (by omega) _))) | ((go_at_call 23; exact q_of (at_any _ _ (by omega) (by omega) (by omega) (by omega) _))))
        go_wp2_with (fail)
        go_ret2
        exact ⟨⟨_, _, rfl, fun _ => hat.out⟩, hB2.trans ⟨rfl, rfl, rfl, Nat.le_refl _, fun _ _ => rfl⟩⟩
  · go_wp2_with (fail)
    go_ret2
    exact ⟨⟨_, _, rfl, fun _ => by omega⟩, hB⟩
end Go.Proofs.YthdbgjhonnogpaaDoor

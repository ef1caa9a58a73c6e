/- The law's own helpers on boards: bdRight, bdMoved. -/
import Derived.Test.YtnlicbhelnocpaaDoorEqArr
import Derived.StillTailTactics
import Derived.BigQuiet
namespace Go.Proofs.YtnlicbhelnocpaaDoor
open Go.ChangeShapes Go.WideShapes Go.ChangeAt Go.RowKit Plain
set_option maxHeartbeats 4000000
set_option linter.unusedVariables false
set_option linter.unusedSimpArgs false

def Right (bd : Nat → Int) : Prop := ∀ i, i < 64 → 0 ≤ bd i ∧ bd i ≤ 12
set_option maxRecDepth 100000 in
theorem bdRight_any (bd : Nat → Int) (w : World) :
    Calls Tryd.prog 10 #[intRow 64 bd] w fun e w' => ∃ r, e = .returned (.bool r) ∧ (r = true ↔ Right bd) ∧ Below w.heap.size w w' := by
  unfold intRow
  have hr := rowIs_new w 23 64 (fun i => .int .i64 (bd i))
  have hb : Below w.heap.size w (w.alloc (.cells (rowArr 64 fun i => .int .i64 (bd i)) 23)) := (Below.refl _ _).alloc (Nat.le_refl _) _
  go_enter Tryd.func10, Tryd.ntmps10
  go_wp2
  generalize (w.alloc (.cells (rowArr 64 fun i => .int .i64 (bd i)) 23)) = w1 at *
  go_loopw [3] (fun i wr => ∃ k : Nat, k ≤ 64 ∧ i = .int .i64 k ∧ (∀ j, j < k → 0 ≤ bd j ∧ bd j ≤ 12) ∧ wr = w1) (fun i _ => 64 - (intOf i).toNat)
  case atStart => exact ⟨0, by omega, rfl, fun j hj => absurd hj (by omega), rfl⟩
  case round =>
    obtain ⟨k, hk, rfl, hall, rfl⟩ := hrel
    by_cases hlt : k < 64
    · have hc := hr.cell (i := k) (by omega)
      have hall := Lib.hid hall
      by_cases h1 : bd k < 0
      · have hd : decide (bd k < 0) = true := by simpa using h1
        have hn : ¬ Right bd := fun h => absurd (h k hlt) (by omega)
        clear h1
        go_wp2
        all_goals (go_ret; exact ⟨false, rfl, ⟨fun h => (by cases h), fun h => absurd h hn⟩, hb⟩)
      · have hd : decide (bd k < 0) = false := by simpa using h1
        by_cases h2 : 12 < bd k
        · have hd2 : decide (12 < bd k) = true := by simpa using h2
          have hn : ¬ Right bd := fun h => absurd (h k hlt) (by omega)
          clear h1 h2
          go_wp2
          all_goals (go_ret; exact ⟨false, rfl, ⟨fun h => (by cases h), fun h => absurd h hn⟩, hb⟩)
        · have hd2 : decide (12 < bd k) = false := by simpa using h2
          have h3 := Lib.hid (show 0 ≤ bd k ∧ bd k ≤ 12 by omega)
          clear h1 h2
          go_wp2
          refine ⟨⟨k + 1, by omega, by go_num, fun j hj => ?_, trivial⟩, by simp [intOf]; omega⟩
          by_cases e : j = k
          · subst e; exact h3.out
          · exact hall.out j (by omega)
    · obtain rfl : k = 64 := by omega
      have hall := Lib.hid hall
      go_wp2
      go_ret
      exact ⟨true, rfl, ⟨fun _ => hall.out, fun _ => rfl⟩, hb⟩

theorem bdRight_true (bd : Nat → Int) (h : Right bd) (w : World) :
    Calls Tryd.prog 10 #[intRow 64 bd] w fun e w' => e = .returned (.bool true) ∧ Below w.heap.size w w' :=
  (bdRight_any bd w).mono fun e w' ⟨r, he, hr, hb⟩ => ⟨by rw [he, hr.2 h], hb⟩
theorem bdRight_false (bd : Nat → Int) (h : ¬ Right bd) (w : World) :
    Calls Tryd.prog 10 #[intRow 64 bd] w fun e w' => e = .returned (.bool false) ∧ Below w.heap.size w w' :=
  (bdRight_any bd w).mono fun e w' ⟨r, he, hr, hb⟩ => ⟨by cases r; exact he; exact absurd (hr.1 rfl) h, hb⟩

end Go.Proofs.YtnlicbhelnocpaaDoor

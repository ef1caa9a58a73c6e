/- The rights' text, as a list of letters. -/
import Derived.Test.YthdbgjhonnogpaaGreatDoorCkC
import Derived.Test.YthdbgjhonnogpaaGreatDoorCanA
namespace Go.Proofs.YthdbgjhonnogpaaGreatDoor
open Go.ChangeShapes Go.WideShapes Go.ChangeAt Go.RowKit Plain
set_option maxHeartbeats 1000000
set_option linter.unusedVariables false
set_option linter.unusedSimpArgs false

/-- The rights' text, as a list. -/
def casL (x : Int) : Nat → List UInt8
  | 0 => []
  | k + 1 => if bitG x k then casL x k ++ [leC k] else casL x k
def casTL (x : Int) : List UInt8 := if (casL x 4).isEmpty then [45] else casL x 4
theorem letC_tx : ∀ k : Nat, letC k = tx [leC k]
  | 0 => rfl
  | 1 => rfl
  | 2 => rfl
  | _ + 3 => rfl
theorem casB_tx (x : Int) : ∀ k, casB x k = tx (casL x k)
  | 0 => rfl
  | k + 1 => by
    have ih := casB_tx x k
    unfold casB casL
    rw [ih, letC_tx]
    split
    · exact tx_app _ _
    · rfl
theorem casT_tx (x : Int) : casT x = tx (casTL x) := by
  unfold casT casTL
  rw [casB_tx, tx_list]
  split <;> rfl
theorem casTL_len (x : Int) : (casTL x).length ≤ 4 := by
  have : ∀ k, (casL x k).length ≤ k := fun k => by
    induction k with
    | zero => exact Nat.le_refl _
    | succ k ih => unfold casL; split; (· simp; omega); (· omega)
  have h4 := this 4
  unfold casTL
  split
  · simp
  · exact h4
theorem casTL_mem (x : Int) (h0 : 0 ≤ x) (h1 : x ≤ 15) (k : Nat) (hk : k < 4) : decide (leC k ∈ casTL x) = bitG x k := by
  (have : x = 0 ∨ x = 1 ∨ x = 2 ∨ x = 3 ∨ x = 4 ∨ x = 5 ∨ x = 6 ∨ x = 7 ∨ x = 8 ∨ x = 9 ∨ x = 10 ∨ x = 11 ∨ x = 12 ∨ x = 13 ∨ x = 14 ∨ x = 15 := (by omega))
  (have hk4 : k = 0 ∨ k = 1 ∨ k = 2 ∨ k = 3 := (by omega))
  rcases this with rfl | rfl | rfl | rfl | rfl | rfl | rfl | rfl | rfl | rfl | rfl | rfl | rfl | rfl | rfl | rfl <;> rcases hk4 with rfl | rfl | rfl | rfl <;> decide +kernel
end Go.Proofs.YthdbgjhonnogpaaGreatDoor

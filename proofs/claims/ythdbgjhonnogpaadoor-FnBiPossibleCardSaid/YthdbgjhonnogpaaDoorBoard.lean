/- The board in memory: contracts of the program's functions on it. -/
import Derived.Test.YthdbgjhonnogpaaDoorOcc
import Derived.Test.YthdbgjhonnogpaaDoorPiece
import Derived.Test.YthdbgjhonnogpaaDoorMapSq
namespace Go.Proofs.YthdbgjhonnogpaaDoor
open Go.ChangeShapes Go.WideShapes Go.ChangeAt Go.RowKit Plain
set_option maxHeartbeats 1000000
set_option linter.unusedVariables false
set_option linter.unusedSimpArgs false
attribute [local go_sem] bv_and bv_or bv_xor bv_sub bv_andc bv_orc bv_not

abbrev tBoard : TypeId := 85
/-- A board's cells: twelve numbers by piece, white, black, empty, the kings' squares. -/
def cellB (bb : Nat → BitVec 64) (wk bk : Int) (j : Nat) : Value := if j < 15 then .int .u64 (tn (bb j)) else if j = 15 then .int .i8 wk else .int .i8 bk
def boardAt (w : World) (g : Nat) (bb : Nat → BitVec 64) (wk bk : Int) : Prop := w.rowIs g tBoard 17 (cellB bb wk bk)

theorem bbForPiece_any (g : Nat) (f : Nat → Value) (bb : Nat → BitVec 64) (w : World) (h : w.rowIs g tBoard 17 f) (hf : ∀ j, j < 12 → f j = .int .u64 (tn (bb j))) (p : Int) (h0 : 1 ≤ p) (h1 : p ≤ 12) :
    Calls Tryd.prog 67 #[.pointer (some ⟨g, 0, none⟩), .int .i8 p] w fun e w' => e = .returned (.int .u64 (tn (bb (p - 1).toNat))) ∧ w = w' := by
  have hr : ∀ q : Int, q = p → w.cell? ⟨g, (q - 1).toNat, none⟩ = some (.int .u64 (tn (bb (q - 1).toNat))) := fun q hq => by rw [h.cell (by omega), hf _ (by omega)]
  have hc : ∀ j, j < 12 → w.cell? ⟨g, j, none⟩ = some (.int .u64 (tn (bb j))) := fun j hj => by rw [h.cell (by omega), hf j hj]
  have : p = 1 ∨ p = 2 ∨ p = 3 ∨ p = 4 ∨ p = 5 ∨ p = 6 ∨ p = 7 ∨ p = 8 ∨ p = 9 ∨ p = 10 ∨ p = 11 ∨ p = 12 := by omega
  rcases this with rfl | rfl | rfl | rfl | rfl | rfl | rfl | rfl | rfl | rfl | rfl | rfl
  all_goals
    have hcj := hr _ rfl
    simp only [Int.reduceSub, Int.reduceToNat] at hcj
    clear hc h hf hr
    go_enter Tryd.func67, Tryd.ntmps67
    go_wp2
    go_ret
    exact ⟨rfl, rfl⟩

theorem setBB_any (g : Nat) (f : Nat → Value) (w : World) (h : w.rowIs g tBoard 17 f) (x : BitVec 64) (p : Int) (h0 : 1 ≤ p) (h1 : p ≤ 12) :
    Calls Tryd.prog 60 #[.pointer (some ⟨g, 0, none⟩), .int .i8 p, .int .u64 (tn x)] w fun e w' => e = .returned (.tuple #[]) ∧ w' = w.setCell ⟨g, (p - 1).toNat, none⟩ (.int .u64 (tn x)) := by
  have hr : ∀ q : Int, q = p → w.cell? ⟨g, (q - 1).toNat, none⟩ = some (f (q - 1).toNat) ∧ w.frozen? ⟨g, (q - 1).toNat, none⟩ = false := fun q hq => ⟨h.cell (by omega), h.frozen _⟩
  have : p = 1 ∨ p = 2 ∨ p = 3 ∨ p = 4 ∨ p = 5 ∨ p = 6 ∨ p = 7 ∨ p = 8 ∨ p = 9 ∨ p = 10 ∨ p = 11 ∨ p = 12 := by omega
  rcases this with rfl | rfl | rfl | rfl | rfl | rfl | rfl | rfl | rfl | rfl | rfl | rfl
  all_goals
    obtain ⟨hcj, hfj⟩ := hr _ rfl
    simp only [Int.reduceSub, Int.reduceToNat] at hcj hfj
    clear h hr
    go_enter Tryd.func60, Tryd.ntmps60
    go_wp2
    first | go_end0 | refine bodyPost_ret (results_none rfl _ _ _) rfl ?_
    exact ⟨rfl, rfl⟩

/-- The piece on a square: the first of the twelve whose number has it. -/
def pieceFrom (bb : Nat → BitVec 64) (s : Nat) : Nat → Nat → Int
  | 0, _ => 0
  | n + 1, k => if occ (bb k).toNat s then (k : Int) + 1 else pieceFrom bb s n (k + 1)
def pieceAt (bb : Nat → BitVec 64) (s : Nat) : Int := pieceFrom bb s 12 0
theorem pieceFrom_range (bb : Nat → BitVec 64) (s : Nat) : ∀ n k, 0 ≤ pieceFrom bb s n k ∧ pieceFrom bb s n k ≤ k + n
  | 0, k => by simp [pieceFrom]
  | n + 1, k => by
    have := pieceFrom_range bb s n (k + 1)
    unfold pieceFrom
    split <;> omega
end Go.Proofs.YthdbgjhonnogpaaDoor

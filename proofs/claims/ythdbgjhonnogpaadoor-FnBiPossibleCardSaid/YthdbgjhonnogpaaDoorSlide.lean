/- Plain facts on sliding pieces, reckoned by the kernel line by line: what the program's subtraction along a line gives is what is met along both ways of the line. No program in sight. -/
import Derived.Test.YthdbgjhonnogpaaDoorSlideD
namespace Go.Proofs.YthdbgjhonnogpaaDoor.Plain

theorem ranks_ok : allBelow 64 (fun s => lineOk s (1, 0) (-1, 0) (ranks.getD (s / 8) 0)) = true := by decide +kernel
theorem files_ok : allBelow 64 (fun s => lineOk s (0, 1) (0, -1) (files.getD (s % 8) 0)) = true := by decide +kernel
theorem diagonals_ok : allBelow 64 (fun s => lineOk s (1, 1) (-1, -1) (diagonals.getD s 0)) = true := by decide +kernel
theorem antiDiagonals_ok : allBelow 64 (fun s => lineOk s (1, -1) (-1, 1) (antiDiagonals.getD s 0)) = true := by decide +kernel

/-- hvAttack and diaAttack. -/
def hv (o s : Nat) : Nat := lin o (bit s) (ranks.getD (s / 8) 0) ||| lin o (bit s) (files.getD (s % 8) 0)
def dia (o s : Nat) : Nat := lin o (bit s) (diagonals.getD s 0) ||| lin o (bit s) (antiDiagonals.getD s 0)

/-- What a rook and a bishop see, way by way in the order of the reference. -/
def rookSees (f : Nat → Bool) (s : Nat) : List Nat := upTo f (ray s 0 1) ++ upTo f (ray s 1 0) ++ upTo f (ray s 0 (-1)) ++ upTo f (ray s (-1) 0)
def bishopSees (f : Nat → Bool) (s : Nat) : List Nat := upTo f (ray s 1 1) ++ upTo f (ray s 1 (-1)) ++ upTo f (ray s (-1) (-1)) ++ upTo f (ray s (-1) 1)

theorem hv_is (o s : Nat) (hs : s < 64) : hv o s = orBits (rookSees (occ o) s) := by
  rw [hv, lin_of_lineOk (allBelow_of ranks_ok s hs), lin_of_lineOk (allBelow_of files_ok s hs)]
  simp only [rookSees, orBits_append]
  generalize orBits (upTo (occ o) (ray s 1 0)) = a, orBits (upTo (occ o) (ray s (-1) 0)) = b, orBits (upTo (occ o) (ray s 0 1)) = c, orBits (upTo (occ o) (ray s 0 (-1))) = d
  apply Nat.eq_of_testBit_eq
  intro i
  simp only [Nat.testBit_or]
  cases a.testBit i <;> cases b.testBit i <;> cases c.testBit i <;> cases d.testBit i <;> rfl

theorem dia_is (o s : Nat) (hs : s < 64) : dia o s = orBits (bishopSees (occ o) s) := by
  rw [dia, lin_of_lineOk (allBelow_of diagonals_ok s hs), lin_of_lineOk (allBelow_of antiDiagonals_ok s hs)]
  simp only [bishopSees, orBits_append]
  generalize orBits (upTo (occ o) (ray s 1 1)) = a, orBits (upTo (occ o) (ray s (-1) (-1))) = b, orBits (upTo (occ o) (ray s 1 (-1))) = c, orBits (upTo (occ o) (ray s (-1) 1)) = d
  apply Nat.eq_of_testBit_eq
  intro i
  simp only [Nat.testBit_or]
  cases a.testBit i <;> cases b.testBit i <;> cases c.testBit i <;> cases d.testBit i <;> rfl

/-- The own square is on none of its ways. -/
def raysOk (s : Nat) : Bool := [((0 : Int), (1 : Int)), (1, 0), (0, -1), (-1, 0), (1, 1), (1, -1), (-1, -1), (-1, 1)].all fun d => (ray s d.1 d.2).all fun t => decide (t < 64) && t != s
theorem rays_ok : allBelow 64 raysOk = true := by decide +kernel

end Go.Proofs.YthdbgjhonnogpaaDoor.Plain

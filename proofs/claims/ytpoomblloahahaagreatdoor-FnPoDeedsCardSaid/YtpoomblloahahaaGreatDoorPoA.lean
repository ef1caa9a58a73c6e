/- A book's move: its code's parts, as they are told, and the reading of a move's parts. -/
import Derived.Test.YtpoomblloahahaaGreatDoorCells
namespace Go.Proofs.YtpoomblloahahaaGreatDoor
open Go.ChangeShapes Go.WideShapes Go.ChangeAt Go.RowKit Go.PlainAid
set_option maxHeartbeats 1000000
set_option linter.unusedVariables false
set_option linter.unusedSimpArgs false

theorem and7 (a : Int) (h0 : 0 ≤ a) (h1 : a < 65536) : bits .and .u16 a 7 = a % 8 := by
  rw [u16_and a 7 h0 h1 (by omega) (by omega)]
  show ((a.toNat &&& 7 : Nat) : Int) = _
  rw [nat_mask3]
  omega
theorem and63' (a : Int) (h0 : 0 ≤ a) (h1 : a < 65536) : bits .and .u16 a 63 = a % 64 := by
  rw [u16_and a 63 h0 h1 (by omega) (by omega)]
  show ((a.toNat &&& 63 : Nat) : Int) = _
  rw [nat_mask6]
  omega
theorem or_add (i : Nat) (a b : Int) (ha0 : 0 ≤ a) (ha : a < 2 ^ i) (hb0 : 0 ≤ b) (hb : b < 65536) (h : b % 2 ^ i = 0) (hi : (2 : Int) ^ i ≤ 65536) : bits .or .u16 a b = a + b := by
  rw [u16_or a b ha0 (by omega) hb0 hb, Nat.or_comm, nat_join i b.toNat a.toNat]
  · omega
  · have : ((b.toNat % 2 ^ i : Nat) : Int) = 0 := by
      rw [Int.natCast_emod, Int.toNat_of_nonneg hb0, Int.natCast_pow]; exact h
    omega
  · have : (a.toNat : Int) < ((2 ^ i : Nat) : Int) := by
      rw [Int.toNat_of_nonneg ha0, Int.natCast_pow]; exact ha
    omega
/-- The parts of a book's move. -/
def polyV (a b c d p : Int) (k : Bool) : Value := .agg #[.int .i64 a, .int .i64 b, .int .i64 c, .int .i64 d, .int .i64 p, .bool k]
end Go.Proofs.YtpoomblloahahaaGreatDoor

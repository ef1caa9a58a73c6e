/- A square's bit: the contracts of bits.RotateLeft64 and bitboard.Occupied. -/
import Derived.Test.YthdbgjhonnogpaaDoorBits
namespace Go.Proofs.YthdbgjhonnogpaaDoor
open Go.ChangeShapes Go.WideShapes Go.ChangeAt Go.RowKit Plain
set_option maxHeartbeats 400000
set_option linter.unusedVariables false
set_option linter.unusedSimpArgs false

def rotB (x : BitVec 64) (r : Nat) : BitVec 64 := (x <<< r) ||| (x >>> (64 - r))
theorem and63 (k : Int) (h0 : 0 ≤ k) (h1 : k ≤ 64) : bits .and .u64 k 63 = k % 64 := by
  rw [u64_and k 63 h0 (by omega) (by omega) (by omega)]
  show ((k.toNat &&& 63 : Nat) : Int) = _
  rw [nat_mask6]
  omega
theorem rot_is (x : BitVec 64) (r : Nat) (h : r < 64) : bits .or .u64 (IntKind.u64.wrap (tn x * 2 ^ r)) (tn x / 2 ^ (64 - r)) = tn (rotB x r) := by
  have e1 : IntKind.u64.wrap (tn x * 2 ^ r) = tn (x <<< r) := by
    have := bv_shl x r _ rfl
    rw [← this]; simp
  have e2 : tn x / 2 ^ (64 - r) = tn (x >>> (64 - r)) := by
    have := bv_shr x (64 - r) _ rfl
    rw [← this]; simp
  rw [e1, e2, bv_or, rotB]
theorem rotate_any (x : BitVec 64) (k : Int) (h0 : 1 ≤ k) (h1 : k ≤ 64) (w : World) :
    Calls Tryd.prog 73 #[.int .u64 (tn x), .int .i64 k] w fun e w' => e = .returned (.int .u64 (tn (rotB x (k.toNat % 64)))) ∧ w = w' := by
  have n0 := tn_nonneg x
  have hk := and63 k (by omega) h1
  have hr := rot_is x (k.toNat % 64) (by omega)
  have e : k % 64 = ((k.toNat % 64 : Nat) : Int) := by omega
  rw [e] at hk
  have hr64 : k.toNat % 64 < 64 := by omega
  generalize k.toNat % 64 = r at *
  have hr := Lib.hid hr
  clear e
  go_enter Tryd.func73, Tryd.ntmps73
  go_wp2
  go_ret
  refine ⟨ret_int ?_, rfl⟩
  rw [← hr.out]
theorem rot_bit (x : BitVec 64) (s : Nat) (h : s < 64) : (bits .and .u64 (tn (rotB x ((s + 1) % 64))) 1 == 1) = occ x.toNat s := by
  rw [bv_andc]
  have hb : (rotB x ((s + 1) % 64)).getLsbD 0 = x.toNat.testBit (63 - s) := by
    rw [rotB, BitVec.getLsbD_or, BitVec.getLsbD_shiftLeft, BitVec.getLsbD_ushiftRight]
    by_cases e : s = 63
    · subst e
      have : x.toNat.testBit 64 = false := Nat.testBit_lt_two_pow x.isLt
      simp [BitVec.getLsbD, this]
    · have e1 : (s + 1) % 64 = s + 1 := by omega
      rw [e1]
      have e2 : 64 - (s + 1) + 0 = 63 - s := by omega
      rw [e2]
      simp [BitVec.getLsbD]
  have h1 : (rotB x ((s + 1) % 64) &&& BitVec.ofNat 64 1).toNat = if x.toNat.testBit (63 - s) then 1 else 0 := by
    rw [BitVec.toNat_and]
    show ((rotB x ((s + 1) % 64)).toNat &&& 1) = _
    rw [Nat.and_one_is_mod]
    rw [← hb, BitVec.getLsbD, Nat.testBit_zero]
    by_cases hz : (rotB x ((s + 1) % 64)).toNat % 2 = 1
    · simp [hz]
    · have : (rotB x ((s + 1) % 64)).toNat % 2 = 0 := by omega
      simp [this]
  unfold tn occ
  rw [h1]
  split <;> simp_all
theorem occupied_any (x : BitVec 64) (s : Int) (h0 : 0 ≤ s) (h1 : s < 64) (w : World) :
    Calls Tryd.prog 69 #[.int .u64 (tn x), .int .i8 s] w fun e w' => e = .returned (.bool (occ x.toNat s.toNat)) ∧ w = w' := by
  obtain ⟨k, rfl⟩ : ∃ k : Nat, s = k := ⟨s.toNat, by omega⟩
  have hr := Lib.hid (rot_bit x k (by omega))
  go_enter Tryd.func69, Tryd.ntmps69
  go_wp2_with (go_at_call 73; refine (rotate_any _ _ (by omega) (by omega) _).mono ?_; rintro e w' ⟨rfl, rfl⟩)
  go_ret
  refine ⟨?_, rfl⟩
  have e : ((k : Int) + 1).toNat = k + 1 := by omega
  have h2 : (bits .and .u64 (tn (rotB x (((k : Int) + 1).toNat % 64))) 1 == 1) = occ x.toNat k := by rw [e]; exact hr.out
  exact congrArg (fun b => Ending.returned (Value.bool b)) h2
end Go.Proofs.YthdbgjhonnogpaaDoor

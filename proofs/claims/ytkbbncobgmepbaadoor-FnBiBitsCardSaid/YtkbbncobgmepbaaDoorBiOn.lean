/- A square of a number: the contract of laws.biOn. -/
import Derived.Test.YtkbbncobgmepbaaDoorOcc
namespace Go.Proofs.YtkbbncobgmepbaaDoor
open Go.ChangeShapes Go.WideShapes Go.ChangeAt Go.RowKit Plain
set_option maxHeartbeats 400000
set_option linter.unusedVariables false
set_option linter.unusedSimpArgs false

theorem bit_of (x : BitVec 64) (i : Nat) (h1 : i < 64) : (bits .and .u64 (tn x / 2 ^ (63 - i)) 1 == 1) = occ x.toNat i := by
  have e : tn x / 2 ^ (63 - i) = tn (x >>> (63 - i)) := by
    have := bv_shr x (63 - i) _ rfl
    rw [← this]; simp
  rw [e, bv_andc]
  unfold tn occ
  have h : ((x >>> (63 - i)) &&& BitVec.ofNat 64 1).toNat = if x.toNat.testBit (63 - i) then 1 else 0 := by
    rw [BitVec.toNat_and, BitVec.toNat_ushiftRight]
    show (x.toNat >>> (63 - i)) &&& 1 = _
    rw [Nat.and_one_is_mod, Nat.testBit, Nat.and_comm, Nat.and_one_is_mod]
    by_cases hb : x.toNat >>> (63 - i) % 2 = 0
    · simp [hb]
    · have : x.toNat >>> (63 - i) % 2 = 1 := by omega
      simp [this]
  rw [h]
  split <;> simp_all
theorem biOn_any (x : BitVec 64) (i : Int) (h0 : 0 ≤ i) (h1 : i < 64) (w : World) :
    Calls Tryd.prog 14 #[.int .u64 (tn x), .int .i64 i] w fun e w' => e = .returned (.bool (occ x.toNat i.toNat)) ∧ w = w' := by
  have n0 := tn_nonneg x
  go_enter Tryd.func14, Tryd.ntmps14
  go_wp2
  go_ret
  refine ⟨?_, rfl⟩
  have e : (63 - i).toNat = 63 - i.toNat := by omega
  exact congrArg (fun b => Ending.returned (Value.bool b)) (by rw [e]; exact bit_of x i.toNat (by omega))
theorem square_any (s : Int) (h0 : 0 ≤ s) (h1 : s < 64) (w : World) :
    Calls Tryd.prog 34 #[.int .i64 s] w fun e w' => e = .returned (.int .i8 s) ∧ w = w' := by
  go_enter Tryd.func34, Tryd.ntmps34
  go_wp2
  go_ret
  exact ⟨rfl, rfl⟩
end Go.Proofs.YtkbbncobgmepbaaDoor

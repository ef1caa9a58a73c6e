/- The model's operations on numbers of 64 bits, said on bit vectors; contracts of the program's functions on them. -/
import Derived.Test.YthdbgjhonnogpaaDoorBase
import Derived.Test.YthdbgjhonnogpaaDoorSlideD
namespace Go.Proofs.YthdbgjhonnogpaaDoor
open Go.ChangeShapes Go.WideShapes Go.ChangeAt Go.RowKit Plain
set_option maxHeartbeats 400000
set_option linter.unusedSimpArgs false
set_option linter.unusedVariables false

theorem ret_int {k : IntKind} {a b : Int} (h : a = b) : Ending.returned (Value.int k a) = .returned (.int k b) := by rw [h]
/-- The number of 64 bits that a slot holds. -/
def tn (x : BitVec 64) : Int := (x.toNat : Int)
theorem tn_nonneg (x : BitVec 64) : 0 ≤ tn x := by unfold tn; omega
theorem tn_le (x : BitVec 64) : tn x ≤ 18446744073709551615 := by unfold tn; have := x.isLt; omega
theorem tn_inj {x y : BitVec 64} (h : tn x = tn y) : x = y := by
  unfold tn at h; exact BitVec.eq_of_toNat_eq (by omega)
theorem tn_ofNat (n : Nat) (h : n < 18446744073709551616) : tn (BitVec.ofNat 64 n) = (n : Int) := by
  unfold tn; rw [BitVec.toNat_ofNat, Nat.mod_eq_of_lt h]
theorem of_tn (a : Int) (h0 : 0 ≤ a) (h1 : a < 18446744073709551616) : a = tn (BitVec.ofNat 64 a.toNat) := by
  rw [tn_ofNat _ (by omega)]; omega
theorem bv_and (x y : BitVec 64) : bits .and .u64 (tn x) (tn y) = tn (x &&& y) := by
  unfold tn; rw [u64_and_nat _ _ x.isLt y.isLt, BitVec.toNat_and]
theorem bv_or (x y : BitVec 64) : bits .or .u64 (tn x) (tn y) = tn (x ||| y) := by
  unfold tn; rw [u64_or_nat _ _ x.isLt y.isLt, BitVec.toNat_or]
theorem bv_xor (x y : BitVec 64) : bits .xor .u64 (tn x) (tn y) = tn (x ^^^ y) := by
  unfold tn; rw [u64_xor_nat _ _ x.isLt y.isLt, BitVec.toNat_xor]
theorem bv_lit {x : BitVec 64} {op : BinOp} (n : Nat) : bits op .u64 (tn x) (no_index (OfNat.ofNat n : Int)) = bits op .u64 (tn x) (tn (BitVec.ofNat 64 n)) := by
  have h : BitVec.ofInt IntKind.u64.bits (OfNat.ofNat n : Int) = BitVec.ofInt IntKind.u64.bits (tn (BitVec.ofNat 64 n)) := by
    show BitVec.ofInt 64 (n : Int) = BitVec.ofInt 64 ((BitVec.ofNat 64 n).toNat : Int)
    rw [BitVec.ofInt_natCast, BitVec.ofInt_natCast]
    apply BitVec.eq_of_toNat_eq
    simp
  unfold bits
  rw [h]
theorem bv_litL {x : BitVec 64} {op : BinOp} (n : Nat) : bits op .u64 (no_index (OfNat.ofNat n : Int)) (tn x) = bits op .u64 (tn (BitVec.ofNat 64 n)) (tn x) := by
  have h : BitVec.ofInt IntKind.u64.bits (OfNat.ofNat n : Int) = BitVec.ofInt IntKind.u64.bits (tn (BitVec.ofNat 64 n)) := by
    show BitVec.ofInt 64 (n : Int) = BitVec.ofInt 64 ((BitVec.ofNat 64 n).toNat : Int)
    rw [BitVec.ofInt_natCast, BitVec.ofInt_natCast]
    apply BitVec.eq_of_toNat_eq
    simp
  unfold bits
  rw [h]
theorem bv_andc (x : BitVec 64) (n : Nat) : bits .and .u64 (tn x) (no_index (OfNat.ofNat n : Int)) = tn (x &&& BitVec.ofNat 64 n) := by rw [bv_lit, bv_and]
theorem bv_orc (x : BitVec 64) (n : Nat) : bits .or .u64 (tn x) (no_index (OfNat.ofNat n : Int)) = tn (x ||| BitVec.ofNat 64 n) := by rw [bv_lit, bv_or]
theorem bv_not (x : BitVec 64) : bits .xor .u64 IntKind.u64.max (tn x) = tn (~~~x) := by
  show IntKind.u64.wrap ((BitVec.ofInt 64 18446744073709551615 ^^^ BitVec.ofInt 64 (tn x)).toNat : Int) = _
  have h1 : BitVec.ofInt 64 18446744073709551615 = BitVec.allOnes 64 := by decide
  have h2 : BitVec.ofInt 64 (tn x) = x := by unfold tn; rw [BitVec.ofInt_natCast, BitVec.ofNat_toNat]; simp
  rw [h1, h2, BitVec.allOnes_xor, IntKind.wrap_u64]
  unfold tn
  have := (~~~x).isLt
  omega
theorem bv_mul (k : Nat) (x : BitVec 64) : IntKind.u64.wrap ((k : Int) * tn x) = tn (BitVec.ofNat 64 k * x) := by
  unfold tn
  rw [IntKind.wrap_u64, BitVec.toNat_mul, BitVec.toNat_ofNat, Nat.mod_mul_mod]
  omega
theorem bv_mul2 (x : BitVec 64) : IntKind.u64.wrap ((2 : Int) * tn x) = tn (2#64 * x) := bv_mul 2 x
theorem bv_shl (x : BitVec 64) (n k : Nat) (hk : 2 ^ n = k) : IntKind.u64.wrap (tn x * (k : Int)) = tn (x <<< n) := by
  unfold tn
  rw [IntKind.wrap_u64, BitVec.toNat_shiftLeft, Nat.shiftLeft_eq, hk]
  omega
theorem bv_shr (x : BitVec 64) (n k : Nat) (hk : 2 ^ n = k) : tn x / (k : Int) = tn (x >>> n) := by
  unfold tn
  rw [BitVec.toNat_ushiftRight, Nat.shiftRight_eq_div_pow, hk]
  omega
theorem bv_sub (x y : BitVec 64) : IntKind.u64.wrap (tn x - tn y) = tn (x - y) := by
  unfold tn
  have hx := x.isLt; have hy := y.isLt
  rw [IntKind.wrap_u64, BitVec.toNat_sub]
  omega
theorem bv_shr1 (x : BitVec 64) : tn x / (2 : Int) = tn (x >>> 1) := bv_shr x 1 2 rfl
theorem bv_shl1 (x : BitVec 64) : IntKind.u64.wrap (tn x * (2 : Int)) = tn (x <<< 1) := bv_shl x 1 2 rfl
theorem bv_shr2 (x : BitVec 64) : tn x / (4 : Int) = tn (x >>> 2) := bv_shr x 2 4 rfl
theorem bv_shl2 (x : BitVec 64) : IntKind.u64.wrap (tn x * (4 : Int)) = tn (x <<< 2) := bv_shl x 2 4 rfl
theorem bv_shr4 (x : BitVec 64) : tn x / (16 : Int) = tn (x >>> 4) := bv_shr x 4 16 rfl
theorem bv_shl4 (x : BitVec 64) : IntKind.u64.wrap (tn x * (16 : Int)) = tn (x <<< 4) := bv_shl x 4 16 rfl
theorem bv_shr7 (x : BitVec 64) : tn x / (128 : Int) = tn (x >>> 7) := bv_shr x 7 128 rfl
theorem bv_shl7 (x : BitVec 64) : IntKind.u64.wrap (tn x * (128 : Int)) = tn (x <<< 7) := bv_shl x 7 128 rfl
theorem bv_shr8 (x : BitVec 64) : tn x / (256 : Int) = tn (x >>> 8) := bv_shr x 8 256 rfl
theorem bv_shl8 (x : BitVec 64) : IntKind.u64.wrap (tn x * (256 : Int)) = tn (x <<< 8) := bv_shl x 8 256 rfl
theorem bv_shr9 (x : BitVec 64) : tn x / (512 : Int) = tn (x >>> 9) := bv_shr x 9 512 rfl
theorem bv_shl9 (x : BitVec 64) : IntKind.u64.wrap (tn x * (512 : Int)) = tn (x <<< 9) := bv_shl x 9 512 rfl
theorem bv_shr16 (x : BitVec 64) : tn x / (65536 : Int) = tn (x >>> 16) := bv_shr x 16 65536 rfl
theorem bv_shl16 (x : BitVec 64) : IntKind.u64.wrap (tn x * (65536 : Int)) = tn (x <<< 16) := bv_shl x 16 65536 rfl
theorem bv_shr32 (x : BitVec 64) : tn x / (4294967296 : Int) = tn (x >>> 32) := bv_shr x 32 4294967296 rfl
theorem bv_shl32 (x : BitVec 64) : IntKind.u64.wrap (tn x * (4294967296 : Int)) = tn (x <<< 32) := bv_shl x 32 4294967296 rfl
attribute [local go_sem] bv_and bv_or bv_xor bv_sub bv_andc bv_orc bv_mul2 bv_shr1 bv_shl1 bv_shr2 bv_shl2 bv_shr4 bv_shl4 bv_shr7 bv_shl7 bv_shr8 bv_shl8 bv_shr9 bv_shl9 bv_shr16 bv_shl16 bv_shr32 bv_shl32

theorem reverseBytes_any (x : BitVec 64) (w : World) :
    Calls Tryd.prog 75 #[.int .u64 (tn x)] w fun e w' => e = .returned (.int .u64 (tn (revBytesB x))) ∧ w = w' := by
  go_enter Tryd.func75, Tryd.ntmps75
  go_wp2
  go_ret
  exact ⟨rfl, rfl⟩
theorem reverse64_any (x : BitVec 64) (w : World) :
    Calls Tryd.prog 74 #[.int .u64 (tn x)] w fun e w' => e = .returned (.int .u64 (tn (revB x))) ∧ w = w' := by
  go_enter Tryd.func74, Tryd.ntmps74
  go_wp2_with (go_at_call 75; refine (reverseBytes_any _ _).mono ?_; rintro e w' ⟨rfl, rfl⟩)
  go_ret
  exact ⟨rfl, rfl⟩
theorem reverse_any (x : BitVec 64) (w : World) :
    Calls Tryd.prog 70 #[.int .u64 (tn x)] w fun e w' => e = .returned (.int .u64 (tn (revB x))) ∧ w = w' := by
  go_enter Tryd.func70, Tryd.ntmps70
  go_wp2_with (go_at_call 74; refine (reverse64_any _ _).mono ?_; rintro e w' ⟨rfl, rfl⟩)
  go_ret
  exact ⟨rfl, rfl⟩
theorem linearAttack_any (o pos mask : BitVec 64) (w : World) :
    Calls Tryd.prog 63 #[.int .u64 (tn o), .int .u64 (tn pos), .int .u64 (tn mask)] w fun e w' => e = .returned (.int .u64 (tn (linB o pos mask))) ∧ w = w' := by
  go_enter Tryd.func63, Tryd.ntmps63
  go_wp2_with (go_at_call 70; refine (reverse_any _ _).mono ?_; rintro e w' ⟨rfl, rfl⟩)
  go_ret
  exact ⟨rfl, rfl⟩

def bitB (s : Nat) : BitVec 64 := BitVec.ofNat 64 (2 ^ (63 - s))
theorem bbForSquare_any (s : Int) (h0 : 0 ≤ s) (h1 : s < 64) (w : World) :
    Calls Tryd.prog 62 #[.int .i8 s] w fun e w' => e = .returned (.int .u64 (tn (bitB s.toNat))) ∧ w = w' := by
  go_enter Tryd.func62, Tryd.ntmps62
  go_wp2
  go_ret
  refine ⟨ret_int ?_, rfl⟩
  unfold tn
  rw [IntKind.wrap_u64, bitB, BitVec.toNat_ofNat]
  have e : (63 - s).toNat = 63 - s.toNat := by omega
  rw [e]
  simp
end Go.Proofs.YthdbgjhonnogpaaDoor

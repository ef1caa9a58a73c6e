/- Squares laid as the bits of a number: the contract of laws.biOf. -/
import Derived.Test.YthdbgjhonnogpaaGreatDoorBi
namespace Go.Proofs.YthdbgjhonnogpaaGreatDoor
open Go.ChangeShapes Go.WideShapes Go.ChangeAt Go.RowKit Plain
set_option maxHeartbeats 400000
set_option linter.unusedVariables false
set_option linter.unusedSimpArgs false
attribute [local go_sem] bv_and bv_or bv_xor bv_sub bv_andc bv_orc

/-- Some squares as cells. -/
def ints (l : List Nat) : List Value := l.map fun (s : Nat) => Value.int .i64 (s : Int)
theorem ints_length (l : List Nat) : (ints l).length = l.length := by simp [ints]
theorem ints_append (a b : List Nat) : ints (a ++ b) = ints a ++ ints b := by simp [ints]

theorem one_int (x : Int) : ∀ u ∈ [Value.int .i64 x], u.oneCell' = true := by
  intro u hu; simp at hu; subst hu; rfl

theorem app_ints {w : World} {B : Nat} {e : TypeId} {v : Value} {l : List Nat} {t : Nat} (h : w.ownsRow B e 1 v (l.length + 1) (ints l ++ [.int .i64 (t : Int)])) : w.ownsRow B e 1 v (l ++ [t]).length (ints (l ++ [t])) := by
  simpa [ints] using h

def orB (l : List Nat) : BitVec 64 := BitVec.ofNat 64 (orBits l)
theorem orBits_lt : ∀ l : List Nat, orBits l < 18446744073709551616
  | [] => by decide
  | s :: l => by
    have h1 : bit s < 2 ^ 64 := Nat.pow_lt_pow_right (by decide) (by omega)
    have h2 : orBits l < 2 ^ 64 := orBits_lt l
    exact Nat.or_lt_two_pow h1 h2
theorem orB_snoc (l : List Nat) (s : Nat) : orB (l ++ [s]) = orB l ||| bitB s := by
  apply BitVec.eq_of_toNat_eq
  have h := orBits_lt (l ++ [s])
  have h1 := orBits_lt l
  have h2 : 2 ^ (63 - s) < 18446744073709551616 := Nat.pow_lt_pow_right (a := 2) (m := 63 - s) (n := 64) (by decide) (by omega)
  rw [orB, BitVec.toNat_ofNat, Nat.mod_eq_of_lt h, BitVec.toNat_or, orB, bitB, BitVec.toNat_ofNat, BitVec.toNat_ofNat, Nat.mod_eq_of_lt h1, Nat.mod_eq_of_lt h2, orBits_append]
  simp [orBits, bit]
theorem or_shift (x : BitVec 64) (s : Nat) (h : s < 64) : bits .or .u64 (tn x) (IntKind.u64.wrap (2 ^ (63 - s))) = tn (x ||| bitB s) := by
  have e : IntKind.u64.wrap (2 ^ (63 - s)) = tn (bitB s) := by
    unfold tn
    rw [IntKind.wrap_u64, bitB, BitVec.toNat_ofNat]
    simp
  rw [e, bv_or]

theorem take_snoc (l : List Nat) (k : Nat) (h : k < l.length) : l.take (k + 1) = l.take k ++ [l.getD k 0] := by
  rw [List.take_succ_eq_append_getElem h]; simp [h]

end Go.Proofs.YthdbgjhonnogpaaGreatDoor

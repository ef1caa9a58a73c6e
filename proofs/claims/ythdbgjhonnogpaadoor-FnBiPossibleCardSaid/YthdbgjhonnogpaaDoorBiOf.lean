/- Squares laid as the bits of a number: the contract of laws.biOf. -/
import Derived.Test.YthdbgjhonnogpaaDoorBi
namespace Go.Proofs.YthdbgjhonnogpaaDoor
open Go.ChangeShapes Go.WideShapes Go.ChangeAt Go.RowKit Plain
set_option maxHeartbeats 400000
set_option linter.unusedVariables false
set_option linter.unusedSimpArgs false
attribute [local go_sem] bv_and bv_or bv_xor bv_sub bv_andc bv_orc

/-- Some squares as cells. -/
def ints (l : List Nat) : List Value := l.map fun (s : Nat) => Value.int .i64 (s : Int)
theorem ints_length (l : List Nat) : (ints l).length = l.length := by simp [ints]
theorem ints_append (a b : List Nat) : ints (a ++ b) = ints a ++ ints b := by simp [ints]

theorem one_int (x : Int) : ∀ u ∈ [Value.int .i64 x], u.oneCell' = true := by
  intro u hu; simp at hu; subst hu; rfl

theorem app_ints {w : World} {B : Nat} {e : TypeId} {v : Value} {l : List Nat} {t : Nat} (h : w.ownsRow B e 1 v (l.length + 1) (ints l ++ [.int .i64 (t : Int)])) : w.ownsRow B e 1 v (l ++ [t]).length (ints (l ++ [t])) := by
  simpa [ints] using h

def orB (l : List Nat) : BitVec 64 := BitVec.ofNat 64 (orBits l)
theorem orBits_lt : ∀ l : List Nat, orBits l < 18446744073709551616
  | [] => by decide
  | s :: l => by
    have h1 : bit s < 2 ^ 64 := Nat.pow_lt_pow_right (by decide) (by omega)
    have h2 : orBits l < 2 ^ 64 := orBits_lt l
    exact Nat.or_lt_two_pow h1 h2
theorem orB_snoc (l : List Nat) (s : Nat) : orB (l ++ [s]) = orB l ||| bitB s := by
  apply BitVec.eq_of_toNat_eq
  have h := orBits_lt (l ++ [s])
  have h1 := orBits_lt l
  have h2 : 2 ^ (63 - s) < 18446744073709551616 := Nat.pow_lt_pow_right (a := 2) (m := 63 - s) (n := 64) (by decide) (by omega)
  rw [orB, BitVec.toNat_ofNat, Nat.mod_eq_of_lt h, BitVec.toNat_or, orB, bitB, BitVec.toNat_ofNat, BitVec.toNat_ofNat, Nat.mod_eq_of_lt h1, Nat.mod_eq_of_lt h2, orBits_append]
  simp [orBits, bit]
theorem or_shift (x : BitVec 64) (s : Nat) (h : s < 64) : bits .or .u64 (tn x) (IntKind.u64.wrap (2 ^ (63 - s))) = tn (x ||| bitB s) := by
  have e : IntKind.u64.wrap (2 ^ (63 - s)) = tn (bitB s) := by
    unfold tn
    rw [IntKind.wrap_u64, bitB, BitVec.toNat_ofNat]
    simp
  rw [e, bv_or]

theorem take_snoc (l : List Nat) (k : Nat) (h : k < l.length) : l.take (k + 1) = l.take k ++ [l.getD k 0] := by
  rw [List.take_succ_eq_append_getElem h]; simp [h]

theorem biOf_any {B : Nat} (v : Value) (l : List Nat) (w : World) (h : w.ownsRow B 3 1 v l.length (ints l)) (h64 : ∀ s ∈ l, s < 64) (hlen : l.length ≤ 1000000) :
    Calls Tryd.prog 10 #[v] w fun e w' => e = .returned (.int .u64 (tn (orB l))) ∧ w = w' := by
  rcases h.2 with ⟨rfl, hn⟩ | ⟨g, cap, cur, rfl, hB, hcur, hle, hcap, hsz, htake⟩
  · obtain rfl : l = [] := List.length_eq_zero_iff.1 hn
    clear h h64 hlen hn
    go_enter Tryd.func10, Tryd.ntmps10
    go_wp2
    go_loop [3, 4] (fun n i => i = .int .i64 0 ∧ n = .int .u64 0) (fun _ _ => 0)
    case atStart => exact ⟨rfl, rfl⟩
    case round =>
      obtain ⟨rfl, rfl⟩ := hrel
      go_wp2
      go_ret
      exact ⟨rfl, rfl⟩
  · have hc : ∀ k, k < l.length → w.cell? ⟨g, k, none⟩ = some (.int .i64 (l.getD k 0 : Nat)) := by
      intro k hk
      rw [h.cellAt k (by omega)]
      simp [ints, hk]
    have hd : ∀ k, k < l.length → l.getD k 0 < 64 := by
      intro k hk
      apply h64
      simp [hk]
    clear h h64 hcur hsz htake hB
    unfold maxLen at hcap
    go_enter Tryd.func10, Tryd.ntmps10
    go_wp2
    go_loop [3, 4] (fun n i => ∃ k : Nat, k ≤ l.length ∧ i = .int .i64 k ∧ n = .int .u64 (tn (orB (l.take k)))) (fun _ i => l.length - (intOf i).toNat)
    case atStart => exact ⟨0, Nat.zero_le _, rfl, rfl⟩
    case round =>
      obtain ⟨k, hk, rfl, rfl⟩ := hrel
      by_cases hlt : k < l.length
      · have hck := hc k hlt
        have hdk := hd k hlt
        have hs := Lib.hid (take_snoc l k hlt)
        have ho := Lib.hid (orB_snoc (l.take k) (l.getD k 0))
        have hsh := Lib.hid (or_shift (orB (l.take k)) (l.getD k 0) hdk)
        generalize hx : l.getD k 0 = x at *
        clear hx hc hd
        go_wp2
        go_round
        case rel => exact ⟨k + 1, by omega, by go_num, by rw [hs.out, ho.out, ← hsh.out]⟩
        case measure => simp [intOf]; omega
      · obtain rfl : k = l.length := by omega
        clear hc hd
        go_wp2
        go_ret
        exact ⟨rfl, rfl⟩
end Go.Proofs.YthdbgjhonnogpaaDoor

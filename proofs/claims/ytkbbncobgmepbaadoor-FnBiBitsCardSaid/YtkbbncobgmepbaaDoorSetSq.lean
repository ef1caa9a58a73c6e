/- A map from squares to truth values that the call made, as a function of the square; a board's number out of it, and it out of the number. -/
import Derived.Test.YtkbbncobgmepbaaDoorRowsK
import Derived.Test.YtkbbncobgmepbaaDoorBiOn
import Derived.Maps.OwnSet
import Derived.Maps.OwnOps
namespace Go.Proofs.YtkbbncobgmepbaaDoor
open Go.ChangeShapes Go.WideShapes Go.ChangeAt Go.RowKit Go.Maps Plain
set_option maxHeartbeats 1000000
set_option linter.unusedVariables false
set_option linter.unusedSimpArgs false
attribute [local go_sem] bv_and bv_or bv_xor bv_sub bv_andc bv_orc bv_shl1

abbrev tSq : TypeId := 61
abbrev tMb : TypeId := 60
theorem wf_i8 {n : Int} (h0 : -128 ≤ n) (h1 : n ≤ 127) : (Lit.int .i8 n).wf = true := by
  simp only [Lit.wf, Bool.and_eq_true, decide_eq_true_eq]
  simp [IntKind.min, IntKind.max, IntKind.signed, IntKind.bits]
  omega
def keySq (s : Nat) : Lit := .int .i8 (s : Int)
theorem plainElem_bool_inv {H : Type} {P : Program} {e : TypeId} (he : P.underlying e = some .bool) {v : Value} {z : DataW H × List MemPlace} (h : plainElem P e v = some z) : ∃ x : Bool, v = .bool x ∧ z = (.lit (.bool x), []) := by
  unfold plainElem at h
  rw [he] at h
  cases v <;> simp at h
  exact ⟨_, rfl, h.symm⟩
/-- A map holds just the squares of v. -/
def setIs (w : World) (bm n : Nat) (v : Nat → Bool) : Prop :=
  ∃ D : DataW Unit, w.ownsMap Tryd.prog tSq (plainElem Tryd.prog 4) bm n D ∧ IsMap D ∧ ∀ s, s < 64 → D.atKey (keySq s) (.lit (.bool false)) = .lit (.bool (v s))
theorem setIs_congr {w : World} {bm n : Nat} {v u : Nat → Bool} (h : setIs w bm n v) (e : ∀ s, s < 64 → v s = u s) : setIs w bm n u := by
  obtain ⟨D, h1, h2, h3⟩ := h
  exact ⟨D, h1, h2, fun s hs => by rw [← e s hs]; exact h3 s hs⟩
theorem setIs_lt {w : World} {bm n : Nat} {v : Nat → Bool} (h : setIs w bm n v) : bm < w.heap.size := by
  obtain ⟨D, ⟨es, c, hb, _⟩, _⟩ := h
  obtain ⟨hlt, _⟩ := Array.getElem?_eq_some_iff.1 hb
  exact hlt
theorem setIs_below {w w' : World} {B bm n : Nat} {v : Nat → Bool} (h : setIs w bm n v) (hb : Below B w w') (hB : bm < B) : setIs w' bm n v := by
  obtain ⟨D, ⟨es, c, hh, h1⟩, h2⟩ := h
  exact ⟨D, ⟨es, c, (hb.block bm hB).trans hh, h1⟩, h2⟩
theorem setIs_made (w : World) : setIs (w.alloc (.map #[] 0)) w.heap.size 0 (fun _ => false) :=
  ⟨.map [], World.ownsMap_made _ _ _ _, isMap_empty, fun s _ => rfl⟩
theorem wpList_lookupB {ops : Array Oper} {rest : List Oper} {o : Oper} {a : Act} {Q : Exit → Act → World → Prop} (w : World) (hg : o.guard = none) (m x : Operand) (hop : o.op = Op.lookup tMb m x false)
    (bm n : Nat) (v : Nat → Bool) (hm : a.eval m = .map (some bm)) (h : setIs w bm n v) (s : Nat) (hs : s < 64) (hx : a.eval x = .int .i8 (s : Int)) (bv : Bool) (hbv : v s = bv)
    (hK : wpList Tryd.prog ops Q rest (a.put o.dst (.bool bv)) w) : wpList Tryd.prog ops Q (o :: rest) a w := by
  subst hbv
  obtain ⟨D, h1, h2, h3⟩ := h
  refine wpList_plain hg fun K' hK' => ?_
  obtain ⟨u, ps, hrun, hv⟩ := h1.lookup (int_keyed Tryd.underlying61) Tryd.underlying60 (z := .bool false) (by kernel_rfl) (plainElem_bool Tryd.underlying4 false) (keyOf_int_mk Tryd.underlying61 (wf_i8 (n := (s : Int)) (by omega) (by omega)))
  obtain ⟨c, rfl, hc⟩ := plainElem_bool_inv Tryd.underlying4 hv
  simp only [Prod.mk.injEq] at hc
  have he := (h3 s hs).symm.trans hc.1
  simp only [DataW.lit.injEq, Lit.bool.injEq] at he
  unfold Oper.wp
  simp [execOp, hop, hm, hx, hrun, Result.andThen]
  rw [← he]
  exact hK' _ _ hK
theorem wpList_storeB {ops : Array Oper} {rest : List Oper} {o : Oper} {a : Act} {Q : Exit → Act → World → Prop} (w : World) (hg : o.guard = none) (m x y : Operand) (hop : o.op = Op.mapUpdate tMb m x y)
    (bm n : Nat) (v : Nat → Bool) (hm : a.eval m = .map (some bm)) (h : setIs w bm n v) (hn : n < 100000) (s : Nat) (hs : s < 64) (hx : a.eval x = .int .i8 (s : Int)) (hy : a.eval y = .bool true)
    (hK : ∀ w', setIs w' bm (n + 1) (fun j => if j = s then true else v j) → w.grownBy w' (some bm) → wpList Tryd.prog ops Q rest (a.put o.dst undef) w') : wpList Tryd.prog ops Q (o :: rest) a w := by
  obtain ⟨D, h1, h2, h3⟩ := h
  refine wpList_mapUpdate_own w hg m x y tMb hop tSq 4 (int_keyed Tryd.underlying61) Tryd.underlying60 _ bm n D hm h1 (by unfold maxLen; omega) (.int .i8 (s : Int)) (.bool true) (keySq s) hx hy (keyOf_int_mk Tryd.underlying61 (wf_i8 (by omega) (by omega))) _ [] (plainElem_bool Tryd.underlying4 true) ?_
  intro w' hown hgrow
  refine hK w' ⟨_, hown, h2.put _ _, fun j hj => ?_⟩ hgrow
  have hkl : WideAt.IsKeyLit (keySq s) := trivial
  by_cases e : j = s
  · subst e
    rw [atKey_put_same h2 hkl]
    simp
  · have hne : keySq j ≠ keySq s := by
      intro h; simp only [keySq, Lit.int.injEq, true_and] at h; omega
    rw [atKey_put_other hne]
    simpa [e] using h3 j hj

/-- The number of a map, of the first n squares. -/
def numB (v : Nat → Bool) : Nat → BitVec 64
  | 0 => 0#64
  | n + 1 => if v n then (numB v n <<< 1) ||| BitVec.ofNat 64 1 else numB v n <<< 1
theorem numB_bit (v : Nat → Bool) : ∀ (n i : Nat), n ≤ 64 → (numB v n).getLsbD i = (decide (i < n) && v (n - 1 - i))
  | 0, i, _ => by simp [numB]
  | n + 1, i, h => by
    have ih := fun j => numB_bit v n j (by omega)
    have h1 : (BitVec.ofNat 64 1).getLsbD i = decide (i = 0) := by
      by_cases e : i = 0
      · subst e; decide
      · rw [decide_eq_false e, BitVec.getLsbD]
        show Nat.testBit (2 ^ 0) i = false
        rw [Nat.testBit_two_pow]
        simp; omega
    have hs : (numB v n <<< 1).getLsbD i = (decide (0 < i ∧ i < n + 1) && v (n - i)) := by
      rw [BitVec.getLsbD_shiftLeft]
      by_cases e : i < 1
      · obtain rfl : i = 0 := by omega
        simp
      · rw [ih (i - 1)]
        by_cases e2 : i < n + 1
        · have a1 : i - 1 < n := by omega
          have a2 : i < 64 := by omega
          have a3 : 0 < i := by omega
          have a4 : n - 1 - (i - 1) = n - i := by omega
          simp [a1, a2, a3, e2, a4, e]
        · have a1 : ¬ i - 1 < n := by omega
          simp [a1, e2]
    unfold numB
    by_cases hv : v n
    · rw [if_pos hv, BitVec.getLsbD_or, hs, h1]
      by_cases e : i = 0
      · subst e; simp [hv]
      · have a3 : 0 < i := by omega
        have a5 : n + 1 - 1 - i = n - i := by omega
        simp [e, a3, a5]
    · rw [if_neg hv, hs]
      by_cases e : i = 0
      · subst e; simp [hv]
      · have a3 : 0 < i := by omega
        have a5 : n + 1 - 1 - i = n - i := by omega
        simp [a3, a5]
theorem numB_occ (x : BitVec 64) (v : Nat → Bool) (h : ∀ s, s < 64 → v s = occ x.toNat s) : numB v 64 = x := by
  apply BitVec.eq_of_getLsbD_eq
  intro i hi
  rw [numB_bit v 64 i (by omega), h _ (by omega)]
  have : 63 - (64 - 1 - i) = i := by omega
  simp [hi, occ, this, BitVec.getLsbD]
theorem newBitboard_any (bm n : Nat) (v : Nat → Bool) (w : World) (hm : setIs w bm n v) :
    Calls Tryd.prog 45 #[.map (some bm)] w fun e w' => e = .returned (.int .u64 (tn (numB v 64))) ∧ w = w' := by
  go_enter Tryd.func45, Tryd.ntmps45
  go_wp2
  go_loopw [3, 5] (fun x i wr => ∃ k : Nat, k ≤ 64 ∧ i = .int .i64 k ∧ x = .int .u64 (tn (numB v k)) ∧ wr = w) (fun _ i _ => 64 - (intOf i).toNat)
  case atStart => exact ⟨0, by omega, rfl, rfl, rfl⟩
  case round =>
    obtain ⟨k, hk, rfl, rfl, rfl⟩ := hrel
    by_cases hlt : k < 64
    · have hs1 : numB v (k + 1) = if v k then (numB v k <<< 1) ||| BitVec.ofNat 64 1 else numB v k <<< 1 := rfl
      have e1 : IntKind.i8.wrap (k : Int) = (k : Int) := IntWalk.i8_in _ (by omega)
      replace hs1 := Lib.hid hs1
      go_wp2_with (at_lookup; refine wpList_lookupB _ rfl _ _ rfl bm n v rfl hm k hlt (by simp [go_sem, e1]) _ rfl ?_)
      · rename_i hv
        exact ⟨⟨k + 1, by omega, by go_num, by rw [hs1.out, if_pos hv], trivial⟩, by simp [intOf]; omega⟩
      · rename_i hv
        exact ⟨⟨k + 1, by omega, by go_num, by rw [hs1.out, if_neg (by simp [hv])], trivial⟩, by simp [intOf]; omega⟩
    · obtain rfl : k = 64 := by omega
      go_wp2
      go_ret
      exact ⟨rfl, rfl⟩
end Go.Proofs.YtkbbncobgmepbaaDoor

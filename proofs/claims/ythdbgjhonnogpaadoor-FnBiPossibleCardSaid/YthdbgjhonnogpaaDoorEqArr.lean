/- Two boards are compared; what stands on a board that was made. -/
import Derived.Test.YthdbgjhonnogpaaDoorImplBoard
import Derived.ChangeKeysEq
namespace Go.Proofs.YthdbgjhonnogpaaDoor
open Go.ChangeShapes Go.WideShapes Go.ChangeAt Go.RowKit Plain
set_option maxHeartbeats 4000000
set_option linter.unusedVariables false
set_option linter.unusedSimpArgs false

theorem run_equalIn_ints (d : Nat) (f g : Nat → Int) (w : World) :
    (Op.equalIn (d + 2) 22 (.agg (rowArr 64 fun i => .int .i64 (f i))) (.agg (rowArr 64 fun i => .int .i64 (g i)))).run Tryd.prog w = .ok ((List.range 64).all fun i => f i == g i) w := by
  have hsz : ∀ w, (sizeOf 3).run Tryd.prog w = .ok 1 w := fun w => by kernel_rfl
  rw [List.range_eq_range', Op.equalIn]
  simp only [Sem.run_bind, run_underlying Tryd.underlying22, Result.andThen_ok, hsz, Std.Legacy.Range.forIn_eq_forIn_range', Std.Legacy.Range.size, Nat.sub_zero, Nat.add_sub_cancel, Nat.div_one]
  have hl : ∀ i ∈ List.range' 0 64 1, i < 64 := fun i hi => by simpa using (List.mem_range'_1.1 hi).2
  generalize List.range' 0 64 1 = l at hl ⊢
  induction l with
  | nil => simp
  | cons i l ih =>
    have hi : i < 64 := hl i (by simp)
    have px : ∀ f : Nat → Int, (part 3 (rowArr 64 fun i => .int .i64 (f i)) (i * 1)).run Tryd.prog w = .ok (.int .i64 (f i)) w := fun f => by
      have hg : (rowArr 64 fun i => Value.int .i64 (f i))[i]? = some (.int .i64 (f i)) := rowArr_get 64 _ i hi
      simp [part, isAgg, run_underlying Tryd.underlying3, hg]
    have pe : (Op.equalIn (d + 1) 3 (.int .i64 (f i)) (.int .i64 (g i))).run Tryd.prog w = .ok (f i == g i) w := run_equalIn_int w d _ .i64 .i64 _ _ Tryd.underlying3
    simp only [List.forIn_cons, Sem.run_bind, px, pe, Result.andThen_ok, List.all_cons]
    cases hb : (f i == g i)
    · simp
    · simp only [Bool.not_true, Bool.false_eq_true, if_false, Sem.run_pure, Result.andThen_ok, Bool.true_and]
      exact ih fun j hj => hl j (by simp [hj])
theorem run_eqInts (f g : Nat → Int) (w : World) :
    (binOp .eql 22 (.agg (rowArr 64 fun i => .int .i64 (f i))) (.agg (rowArr 64 fun i => .int .i64 (g i)))).run Tryd.prog w = .ok (.bool ((List.range 64).all fun i => f i == g i)) w := by
  rw [run_eql_struct, run_equalIn_ints 9998 f g w]
  rfl
theorem eqInts_true {f g : Nat → Int} (h : ∀ i, i < 64 → f i = g i) : ((List.range 64).all fun i => f i == g i) = true := by
  simp only [List.all_eq_true, List.mem_range, beq_iff_eq]
  exact h

theorem bbGo_succ (v : Nat → Int) (p : Int) (n : Nat) : bbGo v p (n + 1) = if v n = p then (bbGo v p n <<< 1) ||| BitVec.ofNat 64 1 else bbGo v p n <<< 1 := rfl
theorem bbGo_bit (v : Nat → Int) (p : Int) : ∀ (n : Nat), n ≤ 64 → ∀ i, i < 64 → (bbGo v p n).getLsbD i = (decide (i < n) && (v (n - 1 - i) == p))
  | 0, _, i, _ => by simp [bbGo]
  | n + 1, hn, i, hi => by
    have ih := bbGo_bit v p n (by omega)
    have hs : (bbGo v p n <<< 1).getLsbD i = (decide (0 < i) && (decide (i - 1 < n) && (v (n - 1 - (i - 1)) == p))) := by
      rw [BitVec.getLsbD_shiftLeft, ih (i - 1) (by omega)]
      by_cases e : i = 0 <;> simp [e, hi] <;> omega
    have h1 : (BitVec.ofNat 64 1).getLsbD i = decide (i = 0) := by
      by_cases e : i = 0
      · subst e; rfl
      · have : Nat.testBit 1 i = false := Nat.testBit_lt_two_pow (Nat.one_lt_two_pow e)
        rw [BitVec.getLsbD_ofNat, this]; simp [e]
    have e2 : (bbGo v p (n + 1)).getLsbD i = ((bbGo v p n <<< 1).getLsbD i || (decide (i = 0) && (v n == p))) := by
      rw [bbGo_succ]
      by_cases hv : v n = p
      · rw [if_pos hv, BitVec.getLsbD_or, h1, beq_iff_eq.2 hv, Bool.and_true]
      · rw [if_neg hv, show (v n == p) = false by simp [hv], Bool.and_false, Bool.or_false]
    rw [e2, hs]
    by_cases e : i = 0
    · subst e; simp
    · have a1 : (i - 1 < n) = (i < n + 1) := by simp only [eq_iff_iff]; omega
      have a2 : n - 1 - (i - 1) = n + 1 - 1 - i := by omega
      have a3 : 0 < i := by omega
      simp [e, a1, a2, a3]
theorem occ_bbsOf (v : Nat → Int) (j s : Nat) (hs : s < 64) : occ (bbsOf v j).toNat s = (v s == (j : Int) + 1) := by
  have h := bbGo_bit v ((j : Int) + 1) 64 (Nat.le_refl _) (63 - s) (by omega)
  have e : 64 - 1 - (63 - s) = s := by omega
  rw [e] at h
  have h2 : 63 - s < 64 := by omega
  simpa [occ, bbsOf, BitVec.getLsbD, h2] using h
theorem pieceFrom_of (v : Nat → Int) (s : Nat) (hs : s < 64) : ∀ (n k : Nat), (k : Int) < v s ∨ v s = 0 → v s ≤ k + n → pieceFrom (bbsOf v) s n k = v s
  | 0, k, h, h2 => by rcases h with h | h <;> simp [pieceFrom] <;> omega
  | n + 1, k, h, h2 => by
    unfold pieceFrom
    rw [occ_bbsOf v k s hs]
    by_cases e : v s = (k : Int) + 1
    · simp [e]
    · have : (v s == (k : Int) + 1) = false := by simp [e]
      rw [this]
      have := pieceFrom_of v s hs n (k + 1) (by omega) (by omega)
      simpa using this
theorem pieceAt_of (v : Nat → Int) (s : Nat) (hs : s < 64) (h0 : 0 ≤ v s) (h1 : v s ≤ 12) : pieceAt (bbsOf v) s = v s :=
  pieceFrom_of v s hs 12 0 (by omega) (by omega)
end Go.Proofs.YthdbgjhonnogpaaDoor

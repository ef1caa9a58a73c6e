/- The contracts of impl.BitsReverse and impl.Occupied; the turned number, bit by bit. -/
import Derived.Test.YtkbbncobgmepbaaDoorBiOn
namespace Go.Proofs.YtkbbncobgmepbaaDoor
open Go.ChangeShapes Go.WideShapes Go.ChangeAt Go.RowKit Plain
set_option maxHeartbeats 1000000
set_option linter.unusedVariables false
set_option linter.unusedSimpArgs false

theorem doorRev_any (x : BitVec 64) (w : World) :
    Calls Tryd.prog 38 #[.int .u64 (tn x)] w fun e w' => e = .returned (.int .u64 (tn (revB x))) ∧ w = w' := by
  go_enter Tryd.func38, Tryd.ntmps38
  go_wp2_with (go_at_call 48; refine (reverse_any x _).mono ?_; rintro e w' ⟨rfl, rfl⟩)
  go_ret
  exact ⟨rfl, rfl⟩
theorem implRev_any (x : BitVec 64) (w : World) :
    Calls Tryd.prog 18 #[.int .u64 (tn x)] w fun e w' => e = .returned (.int .u64 (tn (revB x))) ∧ w = w' := by
  go_enter Tryd.func18, Tryd.ntmps18
  go_wp2_with (go_at_call 38; refine (doorRev_any x _).mono ?_; rintro e w' ⟨rfl, rfl⟩)
  go_ret
  exact ⟨rfl, rfl⟩
theorem doorOcc_any (x : BitVec 64) (s : Int) (h0 : 0 ≤ s) (h1 : s < 64) (w : World) :
    Calls Tryd.prog 40 #[.int .u64 (tn x), .int .i8 s] w fun e w' => e = .returned (.bool (occ x.toNat s.toNat)) ∧ w = w' := by
  go_enter Tryd.func40, Tryd.ntmps40
  go_wp2_with (go_at_call 49; refine (occupied_any x s h0 h1 _).mono ?_; rintro e w' ⟨rfl, rfl⟩)
  go_ret
  exact ⟨rfl, rfl⟩
theorem clo_Occupied (p0 p1 : Addr) (w : World) :
    CallsD Tryd.prog 39 #[.pointer (some p0), .pointer (some p1)] .returning w fun e u' w' => e = .returned (.tuple #[]) ∧ u' = .returning ∧ w' = w := by
  refine callsD_of_wpS Tryd.func39 rfl fun c₀ cs hu => ?_
  apply wpS_seq
  apply wpS_region
  simp [wpOpsS, go_sem, recoverD, hu, Tryd.ntmps39, Exit.thenS]
  refine wpS_cond (t := false) (by simp [Act.eval, Array.replicate]) ?_
  simp only [Bool.false_eq_true, if_false]
  refine wpS_of_wp (wp_skip ?_)
  cases c₀
  simp_all [bodyPostS, results, Tryd.results39]

theorem implOcc_any (x : BitVec 64) (s : Int) (h0 : 0 ≤ s) (h1 : s < 64) (w : World) :
    Calls Tryd.prog 19 #[.int .u64 (tn x), .int .i64 s] w fun e w' => e = .returned (.tuple #[.bool (occ x.toNat s.toNat), .bool true]) ∧ Below w.heap.size w w' := by
  have hmf := mkf Tryd.prog
  go_enter_defers Tryd.func19, Tryd.ntmps19
  go_wp2_with (first | (go_at_call 34; refine (square_any _ h0 h1 _).mono ?_; rintro e w' ⟨rfl, rfl⟩) | (go_at_call 40; refine (doorOcc_any _ _ h0 h1 _).mono ?_; rintro e w' ⟨rfl, rfl⟩))
  refine leaves_cons (f := 39) (args := #[.pointer (some ⟨w.heap.size, 0, none⟩), .pointer (some ⟨w.heap.size + 1, 0, none⟩)]) (by simp) (by simp [go_sem]) ?_; refine (clo_Occupied _ _ _).mono ?_; rintro e u' w'' ⟨rfl, rfl, rfl⟩
  simp [Leaves, settle, results, Tryd.results19, go_sem]
  exact ((Below.refl _ _).alloc (Nat.le_refl _) _).alloc (by simp) _
/-- One step of turning: neighbours of k bits change places. -/
def swapB (m : BitVec 64) (k : Nat) (x : BitVec 64) : BitVec 64 := (x >>> k &&& m) ||| ((x &&& m) <<< k)
def idxB (m : BitVec 64) (k i : Nat) : Nat := if m.getLsbD i then i + k else i - k
theorem swap_bit (m : BitVec 64) (k : Nat) (h : ∀ i, i < 64 → (m.getLsbD i = true → i + k < 64) ∧ (m.getLsbD i = false → k ≤ i ∧ m.getLsbD (i - k) = true) ∧ (m.getLsbD i = true → k ≤ i → m.getLsbD (i - k) = false)) (x : BitVec 64) (i : Nat) (hi : i < 64) :
    (swapB m k x).getLsbD i = x.getLsbD (idxB m k i) := by
  obtain ⟨h1, h2, h3⟩ := h i hi
  unfold swapB idxB
  rw [BitVec.getLsbD_or, BitVec.getLsbD_and, BitVec.getLsbD_ushiftRight, BitVec.getLsbD_shiftLeft, BitVec.getLsbD_and]
  by_cases hm : m.getLsbD i = true
  · rw [if_pos hm, hm, Bool.and_true]
    have : (decide (i < 64) && !decide (i < k) && (x.getLsbD (i - k) && m.getLsbD (i - k))) = false := by
      by_cases hk : i < k
      · simp [hk]
      · rw [h3 hm (by omega)]; simp
    rw [this, Bool.or_false, Nat.add_comm]
  · rw [if_neg hm]
    have hm' : m.getLsbD i = false := by simpa using hm
    obtain ⟨hk, hmk⟩ := h2 hm'
    rw [hm', hmk]
    have : ¬ i < k := by omega
    simp [hi, this]
theorem half_swap (x : BitVec 64) : (x >>> 32) ||| (x <<< 32) = swapB 4294967295#64 32 x := by
  apply BitVec.eq_of_getLsbD_eq
  intro i hi
  unfold swapB
  have hm : ∀ j, j < 64 → (4294967295#64).getLsbD j = decide (j < 32) := by decide
  rw [BitVec.getLsbD_or, BitVec.getLsbD_or, BitVec.getLsbD_and, BitVec.getLsbD_shiftLeft, BitVec.getLsbD_shiftLeft, BitVec.getLsbD_and, BitVec.getLsbD_ushiftRight, hm i hi]
  by_cases h : i < 32
  · simp [h]
  · have h1 : x.getLsbD (32 + i) = false := BitVec.getLsbD_of_ge _ _ (by omega)
    have h2 : i - 32 < 32 := by omega
    rw [h1, hm (i - 32) (by omega)]
    simp [h, h2, hi]
theorem revB_swap (x : BitVec 64) : revB x = swapB 4294967295#64 32 (swapB 281470681808895#64 16 (swapB 71777214294589695#64 8 (swapB 1085102592571150095#64 4 (swapB 3689348814741910323#64 2 (swapB 6148914691236517205#64 1 x))))) := by
  rw [← half_swap]
  rfl
theorem idx_all : ∀ i, i < 64 → idxB 6148914691236517205#64 1 (idxB 3689348814741910323#64 2 (idxB 1085102592571150095#64 4 (idxB 71777214294589695#64 8 (idxB 281470681808895#64 16 (idxB 4294967295#64 32 i))))) = 63 - i ∧ idxB 4294967295#64 32 i < 64 ∧ idxB 281470681808895#64 16 (idxB 4294967295#64 32 i) < 64 ∧ idxB 71777214294589695#64 8 (idxB 281470681808895#64 16 (idxB 4294967295#64 32 i)) < 64 ∧ idxB 1085102592571150095#64 4 (idxB 71777214294589695#64 8 (idxB 281470681808895#64 16 (idxB 4294967295#64 32 i))) < 64 ∧ idxB 3689348814741910323#64 2 (idxB 1085102592571150095#64 4 (idxB 71777214294589695#64 8 (idxB 281470681808895#64 16 (idxB 4294967295#64 32 i)))) < 64 := by decide
theorem revB_bit (x : BitVec 64) (i : Nat) (hi : i < 64) : (revB x).getLsbD i = x.getLsbD (63 - i) := by
  obtain ⟨h0, h1, h2, h3, h4, h5⟩ := idx_all i hi
  rw [← h0, revB_swap, swap_bit _ 32 (by decide) _ i hi, swap_bit _ 16 (by decide) _ _ h1, swap_bit _ 8 (by decide) _ _ h2, swap_bit _ 4 (by decide) _ _ h3, swap_bit _ 2 (by decide) _ _ h4, swap_bit _ 1 (by decide) _ _ h5]
end Go.Proofs.YtkbbncobgmepbaaDoor

/- Counting pieces of a position: the contract of spec.Count; spec.Dead. -/
import Derived.Test.YthdbgjhonnogpaaDoorImplBoard
import Derived.Test.YthdbgjhonnogpaaDoorSq
import Derived.Deep.QuietTactic
import Derived.BigQuiet
namespace Go.Proofs.YthdbgjhonnogpaaDoor
open Go.ChangeShapes Go.WideShapes Go.ChangeAt Go.RowKit Plain
set_option maxHeartbeats 4000000
set_option linter.unusedVariables false
set_option linter.unusedSimpArgs false

theorem ret_bool {a b : Bool} (h : a = b) : Ending.returned (Value.bool a) = .returned (.bool b) := by rw [h]
/-- How many numbers below n meet p. -/
def cnt (p : Nat → Bool) : Nat → Nat
  | 0 => 0
  | n + 1 => cnt p n + if p n then 1 else 0
theorem cnt_succ (p : Nat → Bool) (n : Nat) : cnt p (n + 1) = cnt p n + if p n then 1 else 0 := rfl
theorem cnt_le (p : Nat → Bool) : ∀ n, cnt p n ≤ n
  | 0 => Nat.le_refl _
  | n + 1 => by rw [cnt_succ]; have := cnt_le p n; split <;> omega
theorem cnt_congr {p q : Nat → Bool} : ∀ {n : Nat}, (∀ i, i < n → p i = q i) → cnt p n = cnt q n
  | 0, _ => rfl
  | n + 1, h => by rw [cnt_succ, cnt_succ, cnt_congr fun i hi => h i (by omega), h n (by omega)]
theorem cnt_zero {p : Nat → Bool} : ∀ {n : Nat}, cnt p n = 0 ↔ ∀ i, i < n → p i = false
  | 0 => by simp [cnt]
  | n + 1 => by
    rw [cnt_succ, Nat.add_eq_zero_iff, cnt_zero]
    constructor
    · rintro ⟨h1, h2⟩ i hi
      by_cases e : i = n
      · subst e; by_cases hp : p i = true
        · simp [hp] at h2
        · simpa using hp
      · exact h1 i (by omega)
    · intro h
      exact ⟨fun i hi => h i (by omega), by rw [h n (by omega)]; rfl⟩
theorem cnt_flip {p q : Nat → Bool} {s : Nat} (hp : p s = false) (hq : q s = true) (he : ∀ j, j ≠ s → q j = p j) : ∀ {n : Nat}, s < n → cnt q n = cnt p n + 1
  | 0, h => absurd h (by omega)
  | n + 1, h => by
    rw [cnt_succ, cnt_succ]
    by_cases e : s = n
    · subst e
      rw [hp, hq, cnt_congr fun i hi => he i (by omega)]
      simp
    · rw [cnt_flip hp hq he (show s < n by omega), he n (fun h => e h.symm)]
      omega
theorem cnt_pos {p : Nat → Bool} {n : Nat} (h : 0 < cnt p n) : ∃ i, i < n ∧ p i = true := by
  apply Classical.byContradiction
  intro hn
  have : cnt p n = 0 := cnt_zero.2 fun i hi => by
    by_cases hp : p i = true
    · exact absurd ⟨i, hi, hp⟩ hn
    · simpa using hp
  omega

set_option maxRecDepth 100000 in
theorem count_any (g : Nat → Int) (k s : Int) (h0 : 0 ≤ k) (h1 : k ≤ 6) (h2 : 0 ≤ s) (h3 : s ≤ 1) (w : World) :
    Calls Tryd.prog 29 #[intRow 69 g, .int .i64 k, .int .i64 s] w fun e w' => e = .returned (.int .i64 (cnt (fun i => g i == k + 6 * s) 64)) ∧ Below w.heap.size w w' := by
  have hr := rowIs_new w 24 69 (fun i => .int .i64 (g i))
  have hb : Below w.heap.size w (w.alloc (.cells (rowArr 69 fun i => .int .i64 (g i)) 24)) := (Below.refl _ _).alloc (Nat.le_refl _) _
  unfold intRow
  go_enter Tryd.func29, Tryd.ntmps29
  go_wp2
  generalize (w.alloc (.cells (rowArr 69 fun i => .int .i64 (g i)) 24)) = w1 at *
  go_loopw [7, 8] (fun m i wr => ∃ j : Nat, j ≤ 64 ∧ i = .int .i64 j ∧ m = .int .i64 (cnt (fun i => g i == k + 6 * s) j) ∧ wr.rowIs w.heap.size 24 69 (fun i => .int .i64 (g i)) ∧ Below w.heap.size w wr) (fun _ i _ => 64 - (intOf i).toNat)
  case atStart => exact ⟨0, by omega, rfl, rfl, hr, hb⟩
  case round =>
    clear hr hb
    obtain ⟨j, hj, rfl, rfl, hr, hb⟩ := hrel
    have hle := cnt_le (fun i => g i == k + 6 * s) j
    by_cases hlt : j < 64
    · have hc := hr.cell (i := j) (by omega)
      have hs := cnt_succ (fun i => g i == k + 6 * s) j
      have hs : cnt (fun i => g i == k + 6 * s) (j + 1) = cnt (fun i => g i == k + 6 * s) j + if (g j == k + 6 * s) = true then 1 else 0 := hs
      generalize cnt (fun i => g i == k + 6 * s) j = c at *
      have hwd : ∀ n, (wr.drewN n).rowIs w.heap.size 24 69 (fun i => .int .i64 (g i)) := fun n => hr.of_block rfl
      have hwb : ∀ n, Below w.heap.size w (wr.drewN n) := fun n => hb.trans ⟨rfl, rfl, rfl, Nat.le_refl _, fun _ _ => rfl⟩
      replace hwd := Lib.hid hwd
      replace hwb := Lib.hid hwb
      clear hr hb
      cases hd : (g j == k + 6 * s)
      all_goals
        rw [hd] at hs
        replace hs := Lib.hid hs
        go_wp2
        go_quiet ((go_at_call 9; exact q_of (of_any _ _ (by omega) (by omega) (by omega) (by omega) _)))
        go_wp2
        exact ⟨⟨j + 1, by omega, by go_num, by rw [hs.out]; simp, hwd.out _, hwb.out _⟩, by simp [intOf]; omega⟩
    · obtain rfl : j = 64 := by omega
      go_wp2
      go_ret
      exact ⟨rfl, hb⟩
end Go.Proofs.YthdbgjhonnogpaaDoor

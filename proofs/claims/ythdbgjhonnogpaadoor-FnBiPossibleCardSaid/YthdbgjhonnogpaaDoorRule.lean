/- The rules' small functions: contracts of spec's SideOf, up, sign, home, KingAt. -/
import Derived.Test.YthdbgjhonnogpaaDoorCount
namespace Go.Proofs.YthdbgjhonnogpaaDoor
open Go.ChangeShapes Go.WideShapes Go.ChangeAt Go.RowKit Plain
set_option maxHeartbeats 4000000
set_option linter.unusedVariables false
set_option linter.unusedSimpArgs false

def sideOf (x : Int) : Int := if 6 < x then 1 else 0
theorem sideOf_range (x : Int) : 0 ≤ sideOf x ∧ sideOf x ≤ 1 := by unfold sideOf; split <;> omega
theorem sideOf_any (x : Int) (w : World) :
    Calls Tryd.prog 38 #[.int .i64 x] w fun e w' => e = .returned (.int .i64 (sideOf x)) ∧ w = w' := by
  by_cases h : 6 < x
  · have H := Lib.hid (show sideOf x = 1 by simp [sideOf, h])
    go_enter Tryd.func38, Tryd.ntmps38
    go_wp2
    go_ret
    exact ⟨by rw [H.out]; rfl, rfl⟩
  · have H := Lib.hid (show sideOf x = 0 by simp [sideOf, h])
    go_enter Tryd.func38, Tryd.ntmps38
    go_wp2
    go_ret
    exact ⟨by rw [H.out]; rfl, rfl⟩
def upI (s : Int) : Int := 1 - 2 * s
theorem up_any (s : Int) (h0 : 0 ≤ s) (h1 : s ≤ 1) (w : World) :
    Calls Tryd.prog 39 #[.int .i64 s] w fun e w' => e = .returned (.int .i64 (upI s)) ∧ w = w' := by
  have h : s = 0 ∨ s = 1 := by omega
  rcases h with rfl | rfl
  all_goals
    go_enter Tryd.func39, Tryd.ntmps39
    go_wp2
    go_ret
    exact ⟨rfl, rfl⟩
def sgn (n : Int) : Int := if n < 0 then -1 else if 0 < n then 1 else 0
theorem sign_any (n : Int) (w : World) :
    Calls Tryd.prog 56 #[.int .i64 n] w fun e w' => e = .returned (.int .i64 (sgn n)) ∧ w = w' := by
  by_cases h : n < 0
  · have H := Lib.hid (show sgn n = -1 by simp [sgn, h])
    go_enter Tryd.func56, Tryd.ntmps56
    go_wp2
    go_ret
    exact ⟨by rw [H.out]; rfl, rfl⟩
  by_cases h2 : 0 < n
  · have H := Lib.hid (show sgn n = 1 by simp [sgn, h, h2])
    go_enter Tryd.func56, Tryd.ntmps56
    go_wp2
    go_ret
    exact ⟨by rw [H.out]; rfl, rfl⟩
  have H := Lib.hid (show sgn n = 0 by simp [sgn, h, h2])
  go_enter Tryd.func56, Tryd.ntmps56
  go_wp2
  go_ret
  exact ⟨by rw [H.out]; rfl, rfl⟩
def homeK (r : Nat) : Nat := 4 + 56 * (r / 2)
def homeR (r : Nat) : Nat := (if r % 2 = 0 then 7 else 0) + 56 * (r / 2)
theorem home_any (r : Nat) (h : r < 4) (w : World) :
    Calls Tryd.prog 45 #[.int .i64 (r : Int)] w fun e w' => e = .returned (.tuple #[.int .i64 (homeK r : Nat), .int .i64 (homeR r : Nat)]) ∧ w = w' := by
  have h : r = 0 ∨ r = 1 ∨ r = 2 ∨ r = 3 := by omega
  rcases h with rfl | rfl | rfl | rfl
  all_goals
    go_enter Tryd.func45, Tryd.ntmps45
    go_wp2_with (go_at_call 23; refine (at_any _ _ (by decide) (by decide) (by decide) (by decide) _).mono ?_; rintro e w' ⟨rfl, rfl⟩)
    go_ret2
    exact ⟨rfl, rfl⟩
/-- The first square from i on of m ones that holds x, else -1. -/
def kFrom (g : Nat → Int) (x : Int) : Nat → Nat → Int
  | 0, _ => -1
  | m + 1, i => if g i = x then (i : Int) else kFrom g x m (i + 1)
def kingAt (g : Nat → Int) (s : Int) : Int := kFrom g (1 + 6 * s) 64 0
theorem kFrom_range (g : Nat → Int) (x : Int) : ∀ m i, -1 ≤ kFrom g x m i ∧ kFrom g x m i < (i + m : Nat)
  | 0, i => by unfold kFrom; omega
  | m + 1, i => by
    have := kFrom_range g x m (i + 1)
    unfold kFrom
    split <;> omega
theorem kFrom_at (g : Nat → Int) (x : Int) : ∀ m i, 0 ≤ kFrom g x m i → g (kFrom g x m i).toNat = x
  | 0, i, h => by unfold kFrom at h; omega
  | m + 1, i, h => by
    unfold kFrom at h ⊢
    by_cases e : g i = x
    · rw [if_pos e]; simpa using e
    · rw [if_neg e] at h ⊢; exact kFrom_at g x m (i + 1) h
theorem kFrom_none (g : Nat → Int) (x : Int) : ∀ m i, kFrom g x m i = -1 → ∀ j, i ≤ j → j < i + m → g j ≠ x
  | 0, i, _, j, h1, h2 => by omega
  | m + 1, i, h, j, h1, h2 => by
    unfold kFrom at h
    by_cases e : g i = x
    · rw [if_pos e] at h; omega
    · rw [if_neg e] at h
      by_cases ej : j = i
      · subst ej; exact e
      · exact kFrom_none g x m (i + 1) h j (by omega) (by omega)
set_option maxRecDepth 100000 in
theorem kingAt_any (g : Nat → Int) (s : Int) (h2 : 0 ≤ s) (h3 : s ≤ 1) (w : World) :
    Calls Tryd.prog 33 #[intRow 69 g, .int .i64 s] w fun e w' => e = .returned (.int .i64 (kingAt g s)) ∧ Below w.heap.size w w' := by
  have hr := rowIs_new w 24 69 (fun i => .int .i64 (g i))
  have hb : Below w.heap.size w (w.alloc (.cells (rowArr 69 fun i => .int .i64 (g i)) 24)) := (Below.refl _ _).alloc (Nat.le_refl _) _
  unfold intRow kingAt
  go_enter Tryd.func33, Tryd.ntmps33
  go_wp2
  generalize (w.alloc (.cells (rowArr 69 fun i => .int .i64 (g i)) 24)) = w1 at *
  go_loopw [5] (fun i wr => ∃ j : Nat, j ≤ 64 ∧ i = .int .i64 j ∧ kFrom g (1 + 6 * s) 64 0 = kFrom g (1 + 6 * s) (64 - j) j ∧ wr.rowIs w.heap.size 24 69 (fun i => .int .i64 (g i)) ∧ Below w.heap.size w wr) (fun i _ => 64 - (intOf i).toNat)
  case atStart => exact ⟨0, by omega, rfl, rfl, hr, hb⟩
  case round =>
    clear hr hb
    obtain ⟨j, hj, rfl, hF, hr, hb⟩ := hrel
    by_cases hlt : j < 64
    · have hc := hr.cell (i := j) (by omega)
      have hs : kFrom g (1 + 6 * s) (64 - j) j = if g j = 1 + 6 * s then (j : Int) else kFrom g (1 + 6 * s) (64 - (j + 1)) (j + 1) := by
        rw [show 64 - j = (64 - (j + 1)) + 1 by omega]; rfl
      rw [hs] at hF
      have hwd : ∀ n, (wr.drewN n).rowIs w.heap.size 24 69 (fun i => .int .i64 (g i)) := fun n => hr.of_block rfl
      have hwb : ∀ n, Below w.heap.size w (wr.drewN n) := fun n => hb.trans ⟨rfl, rfl, rfl, Nat.le_refl _, fun _ _ => rfl⟩
      replace hwd := Lib.hid hwd
      replace hwb := Lib.hid hwb
      clear hr hb hs
      cases hd : (g j == 1 + 6 * s)
      · replace hF := Lib.hid (hF.trans (if_neg (by simpa using hd)))
        go_wp2
        go_quiet ((go_at_call 9; exact q_of (of_any _ _ (by omega) (by omega) (by omega) (by omega) _)))
        go_wp2
        exact ⟨⟨j + 1, by omega, by go_num, hF.out, hwd.out _, hwb.out _⟩, by simp [intOf]; omega⟩
      · replace hF := Lib.hid (hF.trans (if_pos (by simpa using hd)))
        go_wp2
        go_quiet ((go_at_call 9; exact q_of (of_any _ _ (by omega) (by omega) (by omega) (by omega) _)))
        go_wp2
        go_ret
        exact ⟨by rw [hF.out]; rfl, hwb.out _⟩
    · obtain rfl : j = 64 := by omega
      replace hF := Lib.hid hF
      go_wp2
      go_ret
      exact ⟨by rw [hF.out]; rfl, hb⟩
end Go.Proofs.YthdbgjhonnogpaaDoor

/- Contracts of small functions of squares and numbers. -/
import Derived.Test.YthdbgjhonnogpaaDoorBase
namespace Go.Proofs.YthdbgjhonnogpaaDoor
open Go.ChangeShapes Go.WideShapes Go.ChangeAt Go.RowKit
set_option maxHeartbeats 400000

theorem file_any (a : Int) (h0 : 0 ≤ a) (h1 : a < 64) (w : World) :
    Calls Tryd.prog 24 #[.int .i64 a] w fun e w' => e = .returned (.int .i64 (a % 8)) ∧ w = w' := by
  go_enter Tryd.func24, Tryd.ntmps24
  go_wp2
  go_ret
  exact ⟨rfl, rfl⟩
theorem rank_any (a : Int) (h0 : 0 ≤ a) (h1 : a < 64) (w : World) :
    Calls Tryd.prog 8 #[.int .i64 a] w fun e w' => e = .returned (.int .i64 (a / 8)) ∧ w = w' := by
  go_enter Tryd.func8, Tryd.ntmps8
  go_wp2
  go_ret
  exact ⟨rfl, rfl⟩
def atOf (f r : Int) : Int := if 0 ≤ f ∧ f ≤ 7 ∧ 0 ≤ r ∧ r ≤ 7 then 8 * r + f else -1
theorem at_any (f r : Int) (h0 : -1000 ≤ f) (h1 : f ≤ 1000) (h2 : -1000 ≤ r) (h3 : r ≤ 1000) (w : World) :
    Calls Tryd.prog 23 #[.int .i64 f, .int .i64 r] w fun e w' => e = .returned (.int .i64 (atOf f r)) ∧ w = w' := by
  by_cases a : f < 0
  · have H := Lib.hid (show atOf f r = -1 by unfold atOf; rw [if_neg (by omega)])
    go_enter Tryd.func23, Tryd.ntmps23
    go_wp2
    all_goals (go_ret; exact ⟨by rw [H.out]; rfl, rfl⟩)
  by_cases b : 7 < f
  · have H := Lib.hid (show atOf f r = -1 by unfold atOf; rw [if_neg (by omega)])
    go_enter Tryd.func23, Tryd.ntmps23
    go_wp2
    all_goals (go_ret; exact ⟨by rw [H.out]; rfl, rfl⟩)
  by_cases c : r < 0
  · have H := Lib.hid (show atOf f r = -1 by unfold atOf; rw [if_neg (by omega)])
    go_enter Tryd.func23, Tryd.ntmps23
    go_wp2
    all_goals (go_ret; exact ⟨by rw [H.out]; rfl, rfl⟩)
  by_cases d : 7 < r
  · have H := Lib.hid (show atOf f r = -1 by unfold atOf; rw [if_neg (by omega)])
    go_enter Tryd.func23, Tryd.ntmps23
    go_wp2
    all_goals (go_ret; exact ⟨by rw [H.out]; rfl, rfl⟩)
  have H := Lib.hid (show atOf f r = 8 * r + f by unfold atOf; rw [if_pos (by omega)])
  go_enter Tryd.func23, Tryd.ntmps23
  go_wp2
  all_goals (go_ret; exact ⟨by rw [H.out]; rfl, rfl⟩)
theorem of_any (k s : Int) (h0 : 0 ≤ k) (h1 : k ≤ 6) (h2 : 0 ≤ s) (h3 : s ≤ 1) (w : World) :
    Calls Tryd.prog 9 #[.int .i64 k, .int .i64 s] w fun e w' => e = .returned (.int .i64 (k + 6 * s)) ∧ w = w' := by
  go_enter Tryd.func9, Tryd.ntmps9
  go_wp2
  go_ret
  exact ⟨rfl, rfl⟩
def kindOf (x : Int) : Int := if 6 < x then x - 6 else x
theorem kindOf_any (x : Int) (h0 : 0 ≤ x) (h1 : x ≤ 1000) (w : World) :
    Calls Tryd.prog 22 #[.int .i64 x] w fun e w' => e = .returned (.int .i64 (kindOf x)) ∧ w = w' := by
  by_cases h : 6 < x
  · have H := Lib.hid (show kindOf x = x - 6 by simp [kindOf, h])
    go_enter Tryd.func22, Tryd.ntmps22
    go_wp2
    go_ret
    exact ⟨by rw [H.out]; rfl, rfl⟩
  · have H := Lib.hid (show kindOf x = x by simp [kindOf, h])
    go_enter Tryd.func22, Tryd.ntmps22
    go_wp2
    go_ret
    exact ⟨by rw [H.out]; rfl, rfl⟩
end Go.Proofs.YthdbgjhonnogpaaDoor

/- Contracts of the laws' own functions on numbers of squares, and of the reference's ways of the pieces. -/
import Derived.Test.YthdbgjhonnogpaaDoorTabs
import Derived.Test.YthdbgjhonnogpaaDoorSq
namespace Go.Proofs.YthdbgjhonnogpaaDoor
open Go.ChangeShapes Go.WideShapes Go.ChangeAt Go.RowKit Plain
set_option maxHeartbeats 400000
set_option linter.unusedVariables false
set_option linter.unusedSimpArgs false

def wcells (l : List (Int × Int)) : Array Value := (l.flatMap fun d => [Value.int .i64 d.1, .int .i64 d.2]).toArray
theorem wcells_size (l : List (Int × Int)) : (wcells l).size = l.length * 2 := by
  simp only [wcells, List.size_toArray]
  induction l with
  | nil => rfl
  | cons d l ih => simp only [List.flatMap_cons, List.length_append, ih, List.length_cons, List.length_nil]; omega
theorem wcells_one (l : List (Int × Int)) : ∀ u ∈ (wcells l).toList, u.oneCell' = true := by
  intro u hu
  simp only [wcells, List.mem_flatMap] at hu
  obtain ⟨d, _, hu⟩ := hu
  simp only [List.mem_cons, List.not_mem_nil, or_false] at hu
  rcases hu with rfl | rfl <;> rfl
theorem wcells_append (a b : List (Int × Int)) : (wcells (a ++ b)).toList = (wcells a).toList ++ (wcells b).toList := by simp [wcells]
theorem wcells_get : ∀ (l : List (Int × Int)) (k : Nat), k < l.length → (wcells l)[2 * k]? = some (.int .i64 (l.getD k (0, 0)).1) ∧ (wcells l)[2 * k + 1]? = some (.int .i64 (l.getD k (0, 0)).2)
  | [], k, h => by simp at h
  | d :: l, 0, _ => by simp [wcells]
  | d :: l, k + 1, h => by
    have := wcells_get l k (by simpa using h)
    simp only [wcells, List.getElem?_toArray] at this ⊢
    simpa [Nat.mul_add, List.flatMap_cons] using this
def straightL : List (Int × Int) := [(0, 1), (1, 0), (0, -1), (-1, 0)]
def slantingL : List (Int × Int) := [(1, 1), (1, -1), (-1, -1), (-1, 1)]
def jumpsL : List (Int × Int) := [(1, 2), (2, 1), (2, -1), (1, -2), (-1, -2), (-2, -1), (-2, 1), (-1, 2)]
def waysL (k : Int) : List (Int × Int) := if k = 1 ∨ k = 2 then straightL ++ slantingL else if k = 3 then straightL else if k = 4 then slantingL else jumpsL
def farL (k : Int) : Bool := k == 2 || k == 3 || k == 4
theorem straight_any (w : World) :
    Calls Tryd.prog 41 #[] w fun e w' => e = .returned (.slice (some ⟨w.heap.size, 0, none⟩) 4 4) ∧ w' = w.alloc (.cells (wcells straightL) 46) := by
  go_enter Tryd.func41, Tryd.ntmps41
  go_wp2
  go_ret
  exact ⟨rfl, rfl⟩
theorem slanting_any (w : World) :
    Calls Tryd.prog 42 #[] w fun e w' => e = .returned (.slice (some ⟨w.heap.size, 0, none⟩) 4 4) ∧ w' = w.alloc (.cells (wcells slantingL) 46) := by
  go_enter Tryd.func42, Tryd.ntmps42
  go_wp2
  go_ret
  exact ⟨rfl, rfl⟩
theorem jumps_any (w : World) :
    Calls Tryd.prog 43 #[] w fun e w' => e = .returned (.slice (some ⟨w.heap.size, 0, none⟩) 8 8) ∧ w' = w.alloc (.cells (wcells jumpsL) 46) := by
  go_enter Tryd.func43, Tryd.ntmps43
  go_wp2
  go_ret
  exact ⟨rfl, rfl⟩
def WaysPost (k : Int) (w : World) (e : Ending) (w' : World) : Prop :=
  ∃ v, e = .returned (.tuple #[v, .bool (farL k)]) ∧ w'.ownsRow w.heap.size 46 2 v (waysL k).length (wcells (waysL k)).toList ∧ Below w.heap.size w w'
theorem info_way : (Tryd.prog.info? 46).map (fun i => (i.zero, i.size, i.bytes)) = some (some (.agg #[.int .i64 0, .int .i64 0]), 2, 16) := by kernel_rfl
theorem waysOne (k : Int) (h : k = 3 ∨ k = 4 ∨ k = 0 ∨ k = 5 ∨ k = 6) (w : World) : Calls Tryd.prog 21 #[.int .i64 k] w fun e w' => WaysPost k w e w' := by
  rcases h with rfl | rfl | rfl | rfl | rfl
  all_goals
    go_enter Tryd.func21, Tryd.ntmps21
    go_wp2_with (first | (go_at_call 41; refine (straight_any _).mono ?_; rintro e w' ⟨rfl, rfl⟩) | (go_at_call 42; refine (slanting_any _).mono ?_; rintro e w' ⟨rfl, rfl⟩) | (go_at_call 43; refine (jumps_any _).mono ?_; rintro e w' ⟨rfl, rfl⟩))
    go_ret2
    exact ⟨_, rfl, World.ownsRow_lit _ _ _ (Nat.le_refl _) (by decide) (wcells_size _), (Below.refl _ _).alloc (Nat.le_refl _) _⟩
theorem waysBoth (k : Int) (h : k = 1 ∨ k = 2) (w : World) : Calls Tryd.prog 21 #[.int .i64 k] w fun e w' => WaysPost k w e w' := by
  obtain ⟨i0, hi, hz0, hz1, hz2⟩ := info_parts info_way
  have hown := (World.ownsRow_lit (base := w.heap.size) (e := 46) (size := 2) w (wcells straightL) 4 (Nat.le_refl _) (by decide) (wcells_size _)).alloc (.cells (wcells slantingL) 46)
  rcases h with rfl | rfl
  all_goals
    go_enter Tryd.func21, Tryd.ntmps21
    go_wp2_with (first | (go_at_call 41; refine (straight_any _).mono ?_; rintro e w' ⟨rfl, rfl⟩) | (go_at_call 42; refine (slanting_any _).mono ?_; rintro e w' ⟨rfl, rfl⟩) | (at_builtin; refine wpList_append_own _ rfl _ _ 43 rfl w.heap.size 46 i0 (.agg #[.int .i64 0, .int .i64 0]) 2 16 Tryd.underlying43 hi hz0 hz1 hz2 rfl (by decide) _ _ _ rfl hown ⟨w.heap.size + 1, 0, none⟩ 4 4 (wcells slantingL).toList rfl rfl (cells_new (by simp)) (wcells_one _) (by decide) (by decide) (by simp; omega) ?_; intro v' w1 hown' hgrow hnil))
    go_ret2
    exact ⟨v', rfl, hown', (((Below.refl _ _).alloc (Nat.le_refl _) _).alloc (by simp) _).grown hgrow (by simp; omega) (by intro k hk; cases hk; exact Nat.le_refl _)⟩
theorem ways_any (k : Int) (h0 : 0 ≤ k) (h1 : k ≤ 6) (w : World) : Calls Tryd.prog 21 #[.int .i64 k] w fun e w' => WaysPost k w e w' := by
  by_cases h : k = 1 ∨ k = 2
  · exact waysBoth k h w
  · exact waysOne k (by omega) w
end Go.Proofs.YthdbgjhonnogpaaDoor

/- A guarded operation whose guard says yes; a position built out of a board. -/
import Derived.Test.YthdbgjhonnogpaaDoorImplBoard
import Derived.Test.YthdbgjhonnogpaaDoorCount
import Derived.Laws.Tables
namespace Go.Proofs.YthdbgjhonnogpaaDoor
open Go.ChangeShapes Go.WideShapes Go.ChangeAt Go.RowKit Plain
set_option maxHeartbeats 4000000
set_option linter.unusedVariables false
set_option linter.unusedSimpArgs false

theorem wpList_unguard {P : Program} {ops : Array Oper} {rest : List Oper} {o : Oper} {a : Act} {w : World} {Q : Exit → Act → World → Prop} (hw : Region.wanted o (yielded ops a.tmps) = true)
    (h : wpList P ops Q ({ o with guard := none } :: rest) a w) : wpList P ops Q (o :: rest) a w := by
  cases o
  unfold wpList at h ⊢
  rw [if_pos hw]
  rw [if_pos (by simp [Region.wanted])] at h
  exact h

theorem foldl_set : ∀ (l : List Value) (k : Nat) (cs : Array Value), k + l.length ≤ cs.size → ∀ i, ((l.zipIdx k).foldl (fun (cs : Array Value) (cj : Value × Nat) => cs.setIfInBounds (0 + cj.2) cj.1) cs)[i]? = if k ≤ i ∧ i < k + l.length then l[i - k]? else cs[i]?
  | [], k, cs, _, i => by
    rw [if_neg (by simp only [List.length_nil]; omega)]; simp
  | x :: l, k, cs, h, i => by
    simp only [List.zipIdx_cons, List.foldl_cons]
    rw [foldl_set l (k + 1) _ (by simp at h ⊢; omega) i]
    simp only [List.length_cons] at h ⊢
    by_cases e : i = k
    · subst e
      rw [if_neg (by omega), if_pos (by omega)]
      simp [show i < cs.size by omega]
    · by_cases e2 : k + 1 ≤ i ∧ i < k + 1 + l.length
      · rw [if_pos e2, if_pos (by omega)]
        have : i - k = (i - (k + 1)) + 1 := by omega
        rw [this]; simp
      · rw [if_neg e2, if_neg (by omega)]
        rw [Array.getElem?_setIfInBounds_ne (by omega)]

/-- A position with a board and else nothing. -/
def posOf (bd : Nat → Int) (i : Nat) : Int := if i < 64 then bd i else 0
theorem zeroPos' : Tryd.zeroCells24 = rowArr 69 fun _ => .int .i64 0 := by kernel_rfl
theorem infoPos' : (Tryd.prog.info? 24).map (·.size) = some 69 := by kernel_rfl
theorem fold_pos (bd : Nat → Int) : Array.foldl (fun (cs : Array Value) (x : Value × Nat) => cs.setIfInBounds x.snd x.fst) Tryd.zeroCells24 (rowArr 64 fun i => Value.int IntKind.i64 (bd i)).zipIdx 0 (rowArr 64 fun i => Value.int IntKind.i64 (bd i)).size = rowArr 69 fun i => .int .i64 (posOf bd i) := by
  rw [zeroPos']
  have hs : (rowArr 69 fun _ => Value.int .i64 0).size = 69 := rowArr_size _ _
  have hs2 : (rowArr 64 fun i => Value.int .i64 (bd i)).size = 64 := rowArr_size _ _
  have e : Array.foldl (fun (cs : Array Value) (x : Value × Nat) => cs.setIfInBounds x.snd x.fst) (rowArr 69 fun x => Value.int IntKind.i64 0) (rowArr 64 fun i => Value.int IntKind.i64 (bd i)).zipIdx 0 (rowArr 64 fun i => Value.int IntKind.i64 (bd i)).size
      = ((rowArr 64 fun i => Value.int IntKind.i64 (bd i)).toList.zipIdx 0).foldl (fun (cs : Array Value) (cj : Value × Nat) => cs.setIfInBounds (0 + cj.2) cj.1) (rowArr 69 fun x => Value.int IntKind.i64 0) := by
    have h := Array.foldl_toList (fun (cs : Array Value) (x : Value × Nat) => cs.setIfInBounds x.snd x.fst) (init := rowArr 69 fun x => Value.int IntKind.i64 0) (xs := (rowArr 64 fun i => Value.int IntKind.i64 (bd i)).zipIdx)
    simp only [Array.size_zipIdx] at h
    rw [← h, Array.toList_zipIdx]
    simp only [Nat.zero_add]
  rw [e]
  have hg := foldl_set (rowArr 64 fun i => Value.int .i64 (bd i)).toList 0 (rowArr 69 fun _ => Value.int .i64 0) (by rw [Array.length_toList, hs2, hs]; omega)
  generalize List.foldl _ _ _ = R at hg ⊢
  have key : ∀ i, i < 69 → R[i]? = some (.int .i64 (posOf bd i)) := fun i hi => by
    rw [hg i, Array.length_toList, hs2]
    unfold posOf
    by_cases h : i < 64
    · rw [if_pos (by omega), if_pos h, Nat.sub_zero, Array.getElem?_toList, rowArr_get 64 _ i h]
    · rw [if_neg (by omega), if_neg h, rowArr_get 69 _ i hi]
  refine rowArr_eq ?_ key
  apply Nat.le_antisymm
  · apply Classical.byContradiction
    intro hlt
    have h := hg 69
    rw [Array.length_toList, hs2, if_neg (by omega), Array.getElem?_eq_none (xs := rowArr 69 fun _ => Value.int .i64 0) (by rw [hs]; omega), Array.getElem?_eq_none_iff] at h
    omega
  · apply Classical.byContradiction
    intro hlt
    have h := key R.size (by omega)
    rw [Array.getElem?_eq_none (Nat.le_refl _)] at h
    cases h
end Go.Proofs.YthdbgjhonnogpaaDoor

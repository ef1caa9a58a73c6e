/- Rows that are stored whole, and blocks laid out of a literal. -/
import Derived.Test.YtlcdhahnngfjhaaDoorTx
namespace Go.Proofs.YtlcdhahnngfjhaaDoor
open Go.ChangeShapes Go.WideShapes Go.ChangeAt Go.RowKit Go.PlainAid
set_option linter.unusedVariables false

/-! Rows that are stored whole. -/
theorem setCells_other (b : Nat) : ∀ (cs : List Value) (o : Nat) (w : World) (k : Nat), k ≠ b → (w.setCells b o cs).heap[k]? = w.heap[k]?
  | [], _, _, _, _ => rfl
  | v :: r, o, w, k, h => by
    show ((w.setCell ⟨b, o, none⟩ v).setCells b (o + 1) r).heap[k]? = _
    rw [setCells_other b r (o + 1) _ k h, Below.heap_setCell _ _ _ _ (by simpa using h)]
theorem setCells_size (b : Nat) : ∀ (cs : List Value) (o : Nat) (w : World), (w.setCells b o cs).heap.size = w.heap.size
  | [], _, _ => rfl
  | v :: r, o, w => by
    show ((w.setCell ⟨b, o, none⟩ v).setCells b (o + 1) r).heap.size = _
    rw [setCells_size b r (o + 1)]; simp
theorem below_setCells {B b : Nat} {w0 : World} (hB : B ≤ b) : ∀ (cs : List Value) (o : Nat) (w : World), Below B w0 w → Below B w0 (w.setCells b o cs)
  | [], _, _, h => h
  | v :: r, o, w, h => below_setCells hB r (o + 1) (w.setCell ⟨b, o, none⟩ v) (h.setCell (show B ≤ (⟨b, o, none⟩ : Addr).block from hB) v)
theorem rowIs_setCells {b t n : Nat} : ∀ (cs : List Value) (o : Nat) (w : World) (F : Nat → Value), w.rowIs b t n F → (w.setCells b o cs).rowIs b t n (fun j => if o ≤ j ∧ j < o + cs.length then cs.getD (j - o) undef else F j)
  | [], o, w, F, h => h.congr fun j hj => by rw [if_neg (by simp only [List.length_nil]; omega)]
  | v :: r, o, w, F, h => by
    refine (rowIs_setCells r (o + 1) _ _ (h.set o v)).congr fun j hj => ?_
    by_cases e : j = o
    · subst e
      rw [if_neg (by omega), if_pos rfl, if_pos (by simp), Nat.sub_self]; rfl
    · by_cases e2 : o + 1 ≤ j ∧ j < o + 1 + r.length
      · rw [if_pos e2, if_pos (by simp; omega), show j - o = (j - (o + 1)) + 1 by omega]; rfl
      · rw [if_neg e2, if_neg e, if_neg (by simp; omega)]
theorem rowIs_whole {b t n : Nat} {cs : List Value} {w : World} {F : Nat → Value} (h : w.rowIs b t n F) (hl : cs.length = n) : (w.setCells b 0 cs).rowIs b t n (fun j => cs.getD j undef) :=
  (rowIs_setCells cs 0 w F h).congr fun j hj => by rw [if_pos (by omega), Nat.sub_zero]
theorem rowIs_there {b t n : Nat} {w : World} {F : Nat → Value} (h : w.rowIs b t n F) : w.there b 0 n := fun j hj => by
  rw [Nat.zero_add]
  exact ⟨by rw [h.cell hj]; rfl, h.frozen j⟩
theorem row_lit (w : World) (c : Array Value) (t : TypeId) : (w.alloc (.cells c t)).rowIs w.heap.size t c.size (fun j => c.getD j undef) :=
  World.rowIs_alloc w c t _ (fun i hi => by simp [Array.getD, hi])
theorem row_store {b t n : Nat} {w : World} {F : Nat → Value} (h : w.rowIs b t n F) (cs : Array Value) (hl : cs.size = n) : (w.setCells b 0 cs.toList).rowIs b t n (fun j => cs.getD j undef) :=
  (rowIs_whole h (cs := cs.toList) (by simpa using hl)).congr fun j hj => by simp [List.getD_eq_getElem?_getD]
end Go.Proofs.YtlcdhahnngfjhaaDoor

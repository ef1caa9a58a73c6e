/- Standard algebraic notation: the program's parts of a text. -/
import Derived.Test.YtkbbncobgmepbaaDoorSanZz
namespace Go.Proofs.YtkbbncobgmepbaaDoor
open Go.ChangeShapes Go.WideShapes Go.ChangeAt Go.RowKit Go.PlainAid
set_option maxHeartbeats 1000000
set_option linter.unusedVariables false
set_option linter.unusedSimpArgs false
attribute [local go_sem] tx_list tx_size

/-! Rows that are stored whole. -/
theorem setCells_other (b : Nat) : ∀ (cs : List Value) (o : Nat) (w : World) (k : Nat), k ≠ b → (w.setCells b o cs).heap[k]? = w.heap[k]?
  | [], _, _, _, _ => rfl
  | v :: r, o, w, k, h => by
    show ((w.setCell ⟨b, o, none⟩ v).setCells b (o + 1) r).heap[k]? = _
    rw [setCells_other b r (o + 1) _ k h, Below.heap_setCell _ _ _ _ (by simpa using h)]
theorem setCells_size (b : Nat) : ∀ (cs : List Value) (o : Nat) (w : World), (w.setCells b o cs).heap.size = w.heap.size
  | [], _, _ => rfl
  | v :: r, o, w => by
    show ((w.setCell ⟨b, o, none⟩ v).setCells b (o + 1) r).heap.size = _
    rw [setCells_size b r (o + 1)]; simp
theorem below_setCells {B b : Nat} {w0 : World} (hB : B ≤ b) : ∀ (cs : List Value) (o : Nat) (w : World), Below B w0 w → Below B w0 (w.setCells b o cs)
  | [], _, _, h => h
  | v :: r, o, w, h => below_setCells hB r (o + 1) (w.setCell ⟨b, o, none⟩ v) (h.setCell (show B ≤ (⟨b, o, none⟩ : Addr).block from hB) v)
theorem rowIs_setCells {b t n : Nat} : ∀ (cs : List Value) (o : Nat) (w : World) (F : Nat → Value), w.rowIs b t n F → (w.setCells b o cs).rowIs b t n (fun j => if o ≤ j ∧ j < o + cs.length then cs.getD (j - o) undef else F j)
  | [], o, w, F, h => h.congr fun j hj => by rw [if_neg (by simp only [List.length_nil]; omega)]
  | v :: r, o, w, F, h => by
    refine (rowIs_setCells r (o + 1) _ _ (h.set o v)).congr fun j hj => ?_
    by_cases e : j = o
    · subst e
      rw [if_neg (by omega), if_pos rfl, if_pos (by simp), Nat.sub_self]; rfl
    · by_cases e2 : o + 1 ≤ j ∧ j < o + 1 + r.length
      · rw [if_pos e2, if_pos (by simp; omega), show j - o = (j - (o + 1)) + 1 by omega]; rfl
      · rw [if_neg e2, if_neg e, if_neg (by simp; omega)]
theorem rowIs_whole {b t n : Nat} {cs : List Value} {w : World} {F : Nat → Value} (h : w.rowIs b t n F) (hl : cs.length = n) : (w.setCells b 0 cs).rowIs b t n (fun j => cs.getD j undef) :=
  (rowIs_setCells cs 0 w F h).congr fun j hj => by rw [if_pos (by omega), Nat.sub_zero]
theorem rowIs_there {b t n : Nat} {w : World} {F : Nat → Value} (h : w.rowIs b t n F) : w.there b 0 n := fun j hj => by
  rw [Nat.zero_add]
  exact ⟨by rw [h.cell hj]; rfl, h.frozen j⟩
/-- Eight texts as a value's cells. -/
def eight (l : List (List UInt8)) : Array Value := #[.string (tx (l.getD 0 [])), .string (tx (l.getD 1 [])), .string (tx (l.getD 2 [])), .string (tx (l.getD 3 [])), .string (tx (l.getD 4 [])), .string (tx (l.getD 5 [])), .string (tx (l.getD 6 [])), .string (tx (l.getD 7 []))]
def eightF (l : List (List UInt8)) (j : Nat) : Value := .string (tx (l.getD j []))
theorem eight_get (l : List (List UInt8)) (i : Nat) (h : i < 8) : (eight l)[i]? = some (eightF l i) := by
  have : i = 0 ∨ i = 1 ∨ i = 2 ∨ i = 3 ∨ i = 4 ∨ i = 5 ∨ i = 6 ∨ i = 7 := by omega
  rcases this with rfl | rfl | rfl | rfl | rfl | rfl | rfl | rfl <;> rfl
theorem eight_row {b t : Nat} {l : List (List UInt8)} {w : World} {F : Nat → Value} (h : w.rowIs b t 8 F) : (w.setCells b 0 (eight l).toList).rowIs b t 8 (eightF l) :=
  (rowIs_whole h rfl).congr fun j hj => by
    have := eight_get l j hj
    rw [← Array.getElem?_toList] at this
    rw [List.getD_eq_getElem?_getD, this]; rfl
theorem newErr_any (s : ByteArray) (w : World) :
    Calls Tryd.prog 51 #[.string s] w fun e w' => e = .returned (.iface 95 (.pointer (some ⟨w.heap.size, 0, none⟩))) ∧ Below w.heap.size w w' := by
  go_enter Tryd.func51, Tryd.ntmps51
  go_wp2
  go_ret
  exact ⟨rfl, (Below.refl _ _).alloc (Nat.le_refl _) _⟩
/-- The program's empty parts. -/
def TabE (w : World) : Prop := 0 < w.heap.size ∧ ∀ i, i < 8 → w.cell? ⟨0, i, none⟩ = some (.string ⟨#[]⟩)
theorem TabE.below {w w' : World} (h : TabE w) (hb : Below w.heap.size w w') : TabE w' :=
  ⟨Nat.lt_of_lt_of_le h.1 hb.size, fun i hi => by rw [hb.cell (show (⟨0, i, none⟩ : Addr).block < w.heap.size from h.1)]; exact h.2 i hi⟩
/-- What the parts' function answers. -/
def AnpPost (L : List UInt8) (w : World) (e : Ending) (w' : World) : Prop :=
  ((∃ l, SanR L (some l) ∧ l.length = 8 ∧ e = .returned (.tuple #[.agg (eight l), .nilIface])) ∨ (SanR L none ∧ ∃ a, e = .returned (.tuple #[.agg (eight []), .iface 95 (.pointer (some ⟨a, 0, none⟩))]))) ∧ Below w.heap.size w w'
def AnpS (w0 : World) (g : Nat) (l : List (List UInt8)) (v : World) : Prop :=
  (∃ F, v.rowIs w0.heap.size 69 8 F) ∧ g < v.heap.size ∧ w0.heap.size < g ∧ (∀ i, i < 8 → v.cell? ⟨g, i + 1, none⟩ = some (.string (tx (l.getD i [])))) ∧ Below w0.heap.size w0 v
theorem AnpS.below {w0 v v' : World} {g : Nat} {l : List (List UInt8)} (h : AnpS w0 g l v) (hb : Below v.heap.size v v') : AnpS w0 g l v' := by
  obtain ⟨⟨F, h1⟩, h2, h3, h4, h5⟩ := h
  exact ⟨⟨F, rowIs_below h1 hb h1.lt⟩, Nat.lt_of_lt_of_le h2 hb.size, h3, fun i hi => by rw [hb.cell (show (⟨g, i + 1, none⟩ : Addr).block < v.heap.size from h2)]; exact h4 i hi, h5.trans (hb.mono h5.size)⟩
theorem AnpS.cells {w0 v : World} {g : Nat} {l : List (List UInt8)} (h : AnpS w0 g l v) : v.cell? ⟨g, 1, none⟩ = some (.string (tx (l.getD 0 []))) ∧ v.cell? ⟨g, 2, none⟩ = some (.string (tx (l.getD 1 []))) ∧ v.cell? ⟨g, 3, none⟩ = some (.string (tx (l.getD 2 []))) ∧ v.cell? ⟨g, 4, none⟩ = some (.string (tx (l.getD 3 []))) ∧ v.cell? ⟨g, 5, none⟩ = some (.string (tx (l.getD 4 []))) ∧ v.cell? ⟨g, 6, none⟩ = some (.string (tx (l.getD 5 []))) ∧ v.cell? ⟨g, 7, none⟩ = some (.string (tx (l.getD 6 []))) ∧ v.cell? ⟨g, 8, none⟩ = some (.string (tx (l.getD 7 []))) :=
  ⟨h.2.2.2.1 0 (by omega), h.2.2.2.1 1 (by omega), h.2.2.2.1 2 (by omega), h.2.2.2.1 3 (by omega), h.2.2.2.1 4 (by omega), h.2.2.2.1 5 (by omega), h.2.2.2.1 6 (by omega), h.2.2.2.1 7 (by omega)⟩
theorem AnpS.setRow {w0 v : World} {g : Nat} {l : List (List UInt8)} (h : AnpS w0 g l v) (l' : List (List UInt8)) : AnpS w0 g l (v.setCells w0.heap.size 0 (eight l').toList) := by
  obtain ⟨⟨F, h1⟩, h2, h3, h4, h5⟩ := h
  exact ⟨⟨_, eight_row h1⟩, by rw [setCells_size]; exact h2, h3, fun i hi => by rw [World.cell?_of_block (a := ⟨g, i + 1, none⟩) (setCells_other _ _ _ _ _ (by simp; omega))]; exact h4 i hi, below_setCells (Nat.le_refl _) _ _ _ h5⟩
def EmpS (w0 v : World) : Prop := (∃ F, v.rowIs w0.heap.size 69 8 F) ∧ TabE v ∧ 0 < w0.heap.size ∧ Below w0.heap.size w0 v
theorem EmpS.below {w0 v v' : World} (h : EmpS w0 v) (hb : Below v.heap.size v v') : EmpS w0 v' := by
  obtain ⟨⟨F, h1⟩, h2, h3, h4⟩ := h
  exact ⟨⟨F, rowIs_below h1 hb h1.lt⟩, h2.below hb, h3, h4.trans (hb.mono h4.size)⟩
theorem EmpS.cells {w0 v : World} (h : EmpS w0 v) : v.cell? ⟨0, 0, none⟩ = some (.string ⟨#[]⟩) ∧ v.cell? ⟨0, 1, none⟩ = some (.string ⟨#[]⟩) ∧ v.cell? ⟨0, 2, none⟩ = some (.string ⟨#[]⟩) ∧ v.cell? ⟨0, 3, none⟩ = some (.string ⟨#[]⟩) ∧ v.cell? ⟨0, 4, none⟩ = some (.string ⟨#[]⟩) ∧ v.cell? ⟨0, 5, none⟩ = some (.string ⟨#[]⟩) ∧ v.cell? ⟨0, 6, none⟩ = some (.string ⟨#[]⟩) ∧ v.cell? ⟨0, 7, none⟩ = some (.string ⟨#[]⟩) :=
  ⟨h.2.1.2 0 (by omega), h.2.1.2 1 (by omega), h.2.1.2 2 (by omega), h.2.1.2 3 (by omega), h.2.1.2 4 (by omega), h.2.1.2 5 (by omega), h.2.1.2 6 (by omega), h.2.1.2 7 (by omega)⟩
theorem EmpS.setRow {w0 v : World} (h : EmpS w0 v) (l' : List (List UInt8)) : EmpS w0 (v.setCells w0.heap.size 0 (eight l').toList) := by
  obtain ⟨⟨F, h1⟩, h2, h3, h4⟩ := h
  exact ⟨⟨_, eight_row h1⟩, ⟨by rw [setCells_size]; exact h2.1, fun i hi => by rw [World.cell?_of_block (a := ⟨0, i, none⟩) (setCells_other _ _ _ _ _ (by simp; omega))]; exact h2.2 i hi⟩, h3, below_setCells (Nat.le_refl _) _ _ _ h4⟩
set_option maxRecDepth 100000 in
theorem anp_any (L : List UInt8) (hL : L.length ≤ 100) (w : World) (hE : TabE w) :
    Calls Tryd.prog 42 #[.string (tx L)] w fun e w' => AnpPost L w e w' := by
  have hz := Lib.hid (fun w => zzSan_any L hL w)
  have hrow := World.rowIs_alloc w (eight []) 69 (eightF []) (fun i hi => eight_get [] i hi)
  have hb0 : Below w.heap.size w (w.alloc (.cells (eight []) 69)) := (Below.refl _ _).alloc (Nat.le_refl _) _
  have hsz : (w.alloc (.cells (eight []) 69)).heap.size = w.heap.size + 1 := by simp
  have hE1 : TabE (w.alloc (.cells (eight []) 69)) := hE.below hb0
  have hlt0 := hE.1
  replace hE1 := Lib.hid hE1
  clear hE
  go_enter Tryd.func42, Tryd.ntmps42
  go_wp2_with (fail)
  change Calls _ _ _ (w.alloc (.cells (eight []) 69)) _
  generalize (w.alloc (.cells (eight []) 69)) = w1 at *
  refine (hz.out _).mono ?_
  rintro e w2 ⟨⟨l, g, hR, hl, rfl, hg, hg0, hcl⟩ | ⟨hR, rfl⟩, hb2⟩
  · have hS : AnpS w g l w2 := ⟨⟨_, rowIs_below hrow hb2 hrow.lt⟩, hg, by omega, hcl, hb0.trans (hb2.mono (by omega))⟩
    clear hcl hg hb2 hb0 hrow hz hE1
    replace hR := Lib.hid hR
    replace hl := Lib.hid hl
    go_wp2_with (fail)
    refine held_any (S := AnpS w g l) (by kernel_rfl) (hS.below ⟨rfl, rfl, rfl, Nat.le_refl _, fun _ _ => rfl⟩) ?_
    intro wA hHeld
    clear hS
    refine wpAnyH_take (i := 0) (v := ?_) rfl (by kernel_rfl) (by kernel_rfl) (by kernel_rfl) (fun _ _ _ h => h) (Or.inl ⟨by rfl, ?_⟩) (by assumption) ?_
    rotate_left
    · (intro w hSw; obtain ⟨c0, c1, c2, c3, c4, c5, c6, c7⟩ := hSw.cells; go_simp; try with_reducible rfl)
    try simp only [List.getElem_toArray, List.getElem_cons_succ, List.getElem_cons_zero, Act.put, List.setIfInBounds_toArray, List.set_cons_zero, List.set_cons_succ]
    refine wpAnyH_take (i := 1) (v := ?_) rfl (by kernel_rfl) (by kernel_rfl) (by kernel_rfl) (fun _ _ _ h => h) (Or.inl ⟨by rfl, ?_⟩) (by assumption) ?_
    rotate_left
    · (intro w hSw; obtain ⟨c0, c1, c2, c3, c4, c5, c6, c7⟩ := hSw.cells; go_simp; try with_reducible rfl)
    try simp only [List.getElem_toArray, List.getElem_cons_succ, List.getElem_cons_zero, Act.put, List.setIfInBounds_toArray, List.set_cons_zero, List.set_cons_succ]
    refine wpAnyH_take (i := 2) (v := ?_) rfl (by kernel_rfl) (by kernel_rfl) (by kernel_rfl) (fun _ _ _ h => h) (Or.inl ⟨by rfl, ?_⟩) (by assumption) ?_
    rotate_left
    · (intro w hSw; obtain ⟨c0, c1, c2, c3, c4, c5, c6, c7⟩ := hSw.cells; go_simp; try with_reducible rfl)
    try simp only [List.getElem_toArray, List.getElem_cons_succ, List.getElem_cons_zero, Act.put, List.setIfInBounds_toArray, List.set_cons_zero, List.set_cons_succ]
    refine wpAnyH_take (i := 3) (v := ?_) rfl (by kernel_rfl) (by kernel_rfl) (by kernel_rfl) (fun _ _ _ h => h) (Or.inl ⟨by rfl, ?_⟩) (by assumption) ?_
    rotate_left
    · (intro w hSw; obtain ⟨c0, c1, c2, c3, c4, c5, c6, c7⟩ := hSw.cells; go_simp; try with_reducible rfl)
    try simp only [List.getElem_toArray, List.getElem_cons_succ, List.getElem_cons_zero, Act.put, List.setIfInBounds_toArray, List.set_cons_zero, List.set_cons_succ]
    refine wpAnyH_take (i := 4) (v := ?_) rfl (by kernel_rfl) (by kernel_rfl) (by kernel_rfl) (fun _ _ _ h => h) (Or.inl ⟨by rfl, ?_⟩) (by assumption) ?_
    rotate_left
    · (intro w hSw; obtain ⟨c0, c1, c2, c3, c4, c5, c6, c7⟩ := hSw.cells; go_simp; try with_reducible rfl)
    try simp only [List.getElem_toArray, List.getElem_cons_succ, List.getElem_cons_zero, Act.put, List.setIfInBounds_toArray, List.set_cons_zero, List.set_cons_succ]
    refine wpAnyH_take (i := 5) (v := ?_) rfl (by kernel_rfl) (by kernel_rfl) (by kernel_rfl) (fun _ _ _ h => h) (Or.inl ⟨by rfl, ?_⟩) (by assumption) ?_
    rotate_left
    · (intro w hSw; obtain ⟨c0, c1, c2, c3, c4, c5, c6, c7⟩ := hSw.cells; go_simp; try with_reducible rfl)
    try simp only [List.getElem_toArray, List.getElem_cons_succ, List.getElem_cons_zero, Act.put, List.setIfInBounds_toArray, List.set_cons_zero, List.set_cons_succ]
    refine wpAnyH_take (i := 6) (v := ?_) rfl (by kernel_rfl) (by kernel_rfl) (by kernel_rfl) (fun _ _ _ h => h) (Or.inl ⟨by rfl, ?_⟩) (by assumption) ?_
    rotate_left
    · (intro w hSw; obtain ⟨c0, c1, c2, c3, c4, c5, c6, c7⟩ := hSw.cells; go_simp; try with_reducible rfl)
    try simp only [List.getElem_toArray, List.getElem_cons_succ, List.getElem_cons_zero, Act.put, List.setIfInBounds_toArray, List.set_cons_zero, List.set_cons_succ]
    refine wpAnyH_take (i := 7) (v := ?_) rfl (by kernel_rfl) (by kernel_rfl) (by kernel_rfl) (fun _ _ _ h => h) (Or.inl ⟨by rfl, ?_⟩) (by assumption) ?_
    rotate_left
    · (intro w hSw; obtain ⟨c0, c1, c2, c3, c4, c5, c6, c7⟩ := hSw.cells; go_simp; try with_reducible rfl)
    try simp only [List.getElem_toArray, List.getElem_cons_succ, List.getElem_cons_zero, Act.put, List.setIfInBounds_toArray, List.set_cons_zero, List.set_cons_succ]
    refine wpAnyH_take (i := 8) (v := ?_) rfl (by kernel_rfl) (by kernel_rfl) (by kernel_rfl) (fun _ _ _ h => h) (Or.inl ⟨by rfl, ?_⟩) (by assumption) ?_
    rotate_left
    · (intro w hSw; obtain ⟨c0, c1, c2, c3, c4, c5, c6, c7⟩ := hSw.cells; go_simp; try with_reducible rfl)
    try simp only [List.getElem_toArray, List.getElem_cons_succ, List.getElem_cons_zero, Act.put, List.setIfInBounds_toArray, List.set_cons_zero, List.set_cons_succ]
    refine wpAnyH_take (i := 9) (v := ?_) rfl (by kernel_rfl) (by kernel_rfl) (by kernel_rfl) (fun _ _ _ h => h) (Or.inl ⟨by rfl, ?_⟩) (by assumption) ?_
    rotate_left
    · (intro w hSw; obtain ⟨c0, c1, c2, c3, c4, c5, c6, c7⟩ := hSw.cells; go_simp; try with_reducible rfl)
    try simp only [List.getElem_toArray, List.getElem_cons_succ, List.getElem_cons_zero, Act.put, List.setIfInBounds_toArray, List.set_cons_zero, List.set_cons_succ]
    refine wpAnyH_take (i := 10) (v := ?_) rfl (by kernel_rfl) (by kernel_rfl) (by kernel_rfl) (fun _ _ _ h => h) (Or.inl ⟨by rfl, ?_⟩) (by assumption) ?_
    rotate_left
    · (intro w hSw; obtain ⟨c0, c1, c2, c3, c4, c5, c6, c7⟩ := hSw.cells; go_simp; try with_reducible rfl)
    try simp only [List.getElem_toArray, List.getElem_cons_succ, List.getElem_cons_zero, Act.put, List.setIfInBounds_toArray, List.set_cons_zero, List.set_cons_succ]
    refine wpAnyH_take (i := 11) (v := ?_) rfl (by kernel_rfl) (by kernel_rfl) (by kernel_rfl) (fun _ _ _ h => h) (Or.inl ⟨by rfl, ?_⟩) (by assumption) ?_
    rotate_left
    · (intro w hSw; obtain ⟨c0, c1, c2, c3, c4, c5, c6, c7⟩ := hSw.cells; go_simp; try with_reducible rfl)
    try simp only [List.getElem_toArray, List.getElem_cons_succ, List.getElem_cons_zero, Act.put, List.setIfInBounds_toArray, List.set_cons_zero, List.set_cons_succ]
    refine wpAnyH_take (i := 12) (v := ?_) rfl (by kernel_rfl) (by kernel_rfl) (by kernel_rfl) (fun _ _ _ h => h) (Or.inl ⟨by rfl, ?_⟩) (by assumption) ?_
    rotate_left
    · (intro w hSw; obtain ⟨c0, c1, c2, c3, c4, c5, c6, c7⟩ := hSw.cells; go_simp; try with_reducible rfl)
    try simp only [List.getElem_toArray, List.getElem_cons_succ, List.getElem_cons_zero, Act.put, List.setIfInBounds_toArray, List.set_cons_zero, List.set_cons_succ]
    refine wpAnyH_take (i := 13) (v := ?_) rfl (by kernel_rfl) (by kernel_rfl) (by kernel_rfl) (fun _ _ _ h => h) (Or.inl ⟨by rfl, ?_⟩) (by assumption) ?_
    rotate_left
    · (intro w hSw; obtain ⟨c0, c1, c2, c3, c4, c5, c6, c7⟩ := hSw.cells; go_simp; try with_reducible rfl)
    try simp only [List.getElem_toArray, List.getElem_cons_succ, List.getElem_cons_zero, Act.put, List.setIfInBounds_toArray, List.set_cons_zero, List.set_cons_succ]
    refine wpAnyH_take (i := 14) (v := ?_) rfl (by kernel_rfl) (by kernel_rfl) (by kernel_rfl) (fun _ _ _ h => h) (Or.inl ⟨by rfl, ?_⟩) (by assumption) ?_
    rotate_left
    · (intro w hSw; obtain ⟨c0, c1, c2, c3, c4, c5, c6, c7⟩ := hSw.cells; go_simp; try with_reducible rfl)
    try simp only [List.getElem_toArray, List.getElem_cons_succ, List.getElem_cons_zero, Act.put, List.setIfInBounds_toArray, List.set_cons_zero, List.set_cons_succ]
    refine wpAnyH_take (i := 15) (v := ?_) rfl (by kernel_rfl) (by kernel_rfl) (by kernel_rfl) (fun _ _ _ h => h) (Or.inl ⟨by rfl, ?_⟩) (by assumption) ?_
    rotate_left
    · (intro w hSw; obtain ⟨c0, c1, c2, c3, c4, c5, c6, c7⟩ := hSw.cells; go_simp; try with_reducible rfl)
    try simp only [List.getElem_toArray, List.getElem_cons_succ, List.getElem_cons_zero, Act.put, List.setIfInBounds_toArray, List.set_cons_zero, List.set_cons_succ]
    refine wpAnyH_take (i := 16) (v := ?_) rfl (by kernel_rfl) (by kernel_rfl) (by kernel_rfl) (fun _ _ _ h => h) (Or.inl ⟨by rfl, ?_⟩) (by assumption) ?_
    rotate_left
    · (intro w hSw; obtain ⟨c0, c1, c2, c3, c4, c5, c6, c7⟩ := hSw.cells; go_simp; try with_reducible rfl)
    try simp only [List.getElem_toArray, List.getElem_cons_succ, List.getElem_cons_zero, Act.put, List.setIfInBounds_toArray, List.set_cons_zero, List.set_cons_succ]
    refine wpAnyH_take (i := 17) (v := ?_) rfl (by kernel_rfl) (by kernel_rfl) (by kernel_rfl) (fun _ _ _ h => h) (Or.inl ⟨by rfl, ?_⟩) (by assumption) ?_
    rotate_left
    · (intro w hSw; obtain ⟨c0, c1, c2, c3, c4, c5, c6, c7⟩ := hSw.cells; go_simp; try with_reducible rfl)
    try simp only [List.getElem_toArray, List.getElem_cons_succ, List.getElem_cons_zero, Act.put, List.setIfInBounds_toArray, List.set_cons_zero, List.set_cons_succ]
    refine wpAnyH_take (i := 18) (v := ?_) rfl (by kernel_rfl) (by kernel_rfl) (by kernel_rfl) (fun _ _ _ h => h) (Or.inl ⟨by rfl, ?_⟩) (by assumption) ?_
    rotate_left
    · (intro w hSw; obtain ⟨c0, c1, c2, c3, c4, c5, c6, c7⟩ := hSw.cells; go_simp; try with_reducible rfl)
    try simp only [List.getElem_toArray, List.getElem_cons_succ, List.getElem_cons_zero, Act.put, List.setIfInBounds_toArray, List.set_cons_zero, List.set_cons_succ]
    refine wpAnyH_take (i := 19) (v := ?_) rfl (by kernel_rfl) (by kernel_rfl) (by kernel_rfl) (fun _ _ _ h => h) (Or.inl ⟨by rfl, ?_⟩) (by assumption) ?_
    rotate_left
    · (intro w hSw; obtain ⟨c0, c1, c2, c3, c4, c5, c6, c7⟩ := hSw.cells; go_simp; try with_reducible rfl)
    try simp only [List.getElem_toArray, List.getElem_cons_succ, List.getElem_cons_zero, Act.put, List.setIfInBounds_toArray, List.set_cons_zero, List.set_cons_succ]
    refine wpAnyH_take (i := 20) (v := ?_) rfl (by kernel_rfl) (by kernel_rfl) (by kernel_rfl) (fun _ _ _ h => h) (Or.inl ⟨by rfl, ?_⟩) (by assumption) ?_
    rotate_left
    · (intro w hSw; obtain ⟨c0, c1, c2, c3, c4, c5, c6, c7⟩ := hSw.cells; go_simp; try with_reducible rfl)
    try simp only [List.getElem_toArray, List.getElem_cons_succ, List.getElem_cons_zero, Act.put, List.setIfInBounds_toArray, List.set_cons_zero, List.set_cons_succ]
    refine wpAnyH_take (i := 21) (v := ?_) rfl (by kernel_rfl) (by kernel_rfl) (by kernel_rfl) (fun _ _ _ h => h) (Or.inl ⟨by rfl, ?_⟩) (by assumption) ?_
    rotate_left
    · (intro w hSw; obtain ⟨c0, c1, c2, c3, c4, c5, c6, c7⟩ := hSw.cells; go_simp; try with_reducible rfl)
    try simp only [List.getElem_toArray, List.getElem_cons_succ, List.getElem_cons_zero, Act.put, List.setIfInBounds_toArray, List.set_cons_zero, List.set_cons_succ]
    refine wpAnyH_take (i := 22) (v := ?_) rfl (by kernel_rfl) (by kernel_rfl) (by kernel_rfl) (fun _ _ _ h => h) (Or.inl ⟨by rfl, ?_⟩) (by assumption) ?_
    rotate_left
    · (intro w hSw; obtain ⟨c0, c1, c2, c3, c4, c5, c6, c7⟩ := hSw.cells; go_simp; try with_reducible rfl)
    try simp only [List.getElem_toArray, List.getElem_cons_succ, List.getElem_cons_zero, Act.put, List.setIfInBounds_toArray, List.set_cons_zero, List.set_cons_succ]
    refine wpAnyH_take (i := 23) (v := ?_) rfl (by kernel_rfl) (by kernel_rfl) (by kernel_rfl) (fun _ _ _ h => h) (Or.inl ⟨by rfl, ?_⟩) (by assumption) ?_
    rotate_left
    · (intro w hSw; obtain ⟨c0, c1, c2, c3, c4, c5, c6, c7⟩ := hSw.cells; go_simp; try with_reducible rfl)
    try simp only [List.getElem_toArray, List.getElem_cons_succ, List.getElem_cons_zero, Act.put, List.setIfInBounds_toArray, List.set_cons_zero, List.set_cons_succ]
    refine wpAnyH_take (i := 24) (v := ?_) rfl (by kernel_rfl) (by kernel_rfl) (by kernel_rfl) (fun _ _ _ h => h) (Or.inl ⟨by rfl, ?_⟩) (by assumption) ?_
    rotate_left
    · (intro w hSw; obtain ⟨c0, c1, c2, c3, c4, c5, c6, c7⟩ := hSw.cells; go_simp; try with_reducible rfl)
    try simp only [List.getElem_toArray, List.getElem_cons_succ, List.getElem_cons_zero, Act.put, List.setIfInBounds_toArray, List.set_cons_zero, List.set_cons_succ]
    refine wpAnyH_ready (rs := [25]) (by kernel_rfl) (by simp) ?_
    refine AllReadyH.cons rfl (fun K hK => ?_) AllReadyH.nil
    rw [if_pos (by rfl)]
    obtain ⟨F, hF⟩ := hHeld.1
    refine wp_store_mid 69 _ _ rfl w.heap.size 0 (eight l) rfl rfl (rowIs_there hF) (by kernel_rfl) (by simp [eight, Value.oneCell']) ?_
    have hrow2 := eight_row (l := l) hF
    have hS2 := hHeld.setRow l
    generalize wA.setCells w.heap.size 0 (eight l).toList = wB at *
    refine hK.out _ _ hS2 (fun hHeld2 => ?_)
    clear hK K hHeld hF
    try simp only [List.getElem_toArray, List.getElem_cons_succ, List.getElem_cons_zero, Act.put, List.setIfInBounds_toArray, List.set_cons_zero, List.set_cons_succ]
    (refine wpAnyH_take (i := 26) (v := ?_) rfl (by kernel_rfl) (by kernel_rfl) (by kernel_rfl) (fun _ _ _ h => h) (Or.inl ⟨by rfl, ?_⟩) (by assumption) ?_; rotate_left; · (intro w hSw; go_simp; try with_reducible rfl)); try simp only [List.getElem_toArray, List.getElem_cons_succ, List.getElem_cons_zero, Act.put, List.setIfInBounds_toArray, List.set_cons_zero, List.set_cons_succ]
    refine wpAnyH_done (by kernel_rfl) ?_ _
    have hBl := Lib.hid hS2.2.2.2.2
    have d0 := hrow2.cell (i := 0) (by omega)
    have d1 := hrow2.cell (i := 1) (by omega)
    have d2 := hrow2.cell (i := 2) (by omega)
    have d3 := hrow2.cell (i := 3) (by omega)
    have d4 := hrow2.cell (i := 4) (by omega)
    have d5 := hrow2.cell (i := 5) (by omega)
    have d6 := hrow2.cell (i := 6) (by omega)
    have d7 := hrow2.cell (i := 7) (by omega)
    clear hHeld2 hS2 hrow2
    go_wp2_with (fail)
    exact bodyPost_ret (v := .tuple #[.agg (eight l), .nilIface]) (by simp [results, Tryd.results42, go_sem, d0, d1, d2, d3, d4, d5, d6, d7]; rfl) rfl ⟨.inl ⟨l, hR.out, hl.out, rfl⟩, hBl.out⟩
  · have hS : EmpS w w2 := ⟨⟨_, rowIs_below hrow hb2 hrow.lt⟩, hE1.out.below hb2, by omega, hb0.trans (hb2.mono (by omega))⟩
    clear hb2 hb0 hrow hz hE1
    replace hR := Lib.hid hR
    go_wp2_with (fail)
    refine held_any (S := EmpS w) (by kernel_rfl) (hS.below ⟨rfl, rfl, rfl, Nat.le_refl _, fun _ _ => rfl⟩) ?_
    intro wA hHeld
    clear hS
    refine wpAnyH_take (i := 0) (v := ?_) rfl (by kernel_rfl) (by kernel_rfl) (by kernel_rfl) (fun _ _ _ h => h) (Or.inl ⟨by rfl, ?_⟩) (by assumption) ?_
    rotate_left
    · (intro w hSw; obtain ⟨c0, c1, c2, c3, c4, c5, c6, c7⟩ := hSw.cells; go_simp; try with_reducible rfl)
    try simp only [List.getElem_toArray, List.getElem_cons_succ, List.getElem_cons_zero, Act.put, List.setIfInBounds_toArray, List.set_cons_zero, List.set_cons_succ]
    refine wpAnyH_ready (rs := [1]) (by kernel_rfl) (by simp) ?_
    refine AllReadyH.cons rfl (fun K hK => ?_) AllReadyH.nil
    go_simp
    refine (newErr_any _ _).mono ?_
    rintro e w7 ⟨rfl, hb7⟩
    have hS7 := hHeld.below hb7
    refine hK.out _ _ hS7 (fun hHeld2 => ?_)
    clear hK K hHeld hb7
    try simp only [List.getElem_toArray, List.getElem_cons_succ, List.getElem_cons_zero, Act.put, List.setIfInBounds_toArray, List.set_cons_zero, List.set_cons_succ]
    refine wpAnyH_ready (rs := [2]) (by kernel_rfl) (by simp) ?_
    refine AllReadyH.cons rfl (fun K hK => ?_) AllReadyH.nil
    rw [if_pos (by rfl)]
    obtain ⟨F, hF⟩ := hS7.1
    refine wp_store_mid 69 _ _ rfl w.heap.size 0 (eight []) rfl rfl (rowIs_there hF) (by kernel_rfl) (by simp [eight, Value.oneCell']) ?_
    have hrow2 := eight_row (l := []) hF
    have hS2 := hS7.setRow []
    generalize w7.setCells w.heap.size 0 (eight []).toList = wB at *
    refine hK.out _ _ hS2 (fun hHeld3 => ?_)
    clear hK K hHeld2 hF hS7
    try simp only [List.getElem_toArray, List.getElem_cons_succ, List.getElem_cons_zero, Act.put, List.setIfInBounds_toArray, List.set_cons_zero, List.set_cons_succ]
    (refine wpAnyH_take (i := 3) (v := ?_) rfl (by kernel_rfl) (by kernel_rfl) (by kernel_rfl) (fun _ _ _ h => h) (Or.inl ⟨by rfl, ?_⟩) (by assumption) ?_; rotate_left; · (intro w hSw; go_simp; try with_reducible rfl)); try simp only [List.getElem_toArray, List.getElem_cons_succ, List.getElem_cons_zero, Act.put, List.setIfInBounds_toArray, List.set_cons_zero, List.set_cons_succ]
    refine wpAnyH_done (by kernel_rfl) ?_ _
    have hBl := Lib.hid hS2.2.2.2
    have d0 := hrow2.cell (i := 0) (by omega)
    have d1 := hrow2.cell (i := 1) (by omega)
    have d2 := hrow2.cell (i := 2) (by omega)
    have d3 := hrow2.cell (i := 3) (by omega)
    have d4 := hrow2.cell (i := 4) (by omega)
    have d5 := hrow2.cell (i := 5) (by omega)
    have d6 := hrow2.cell (i := 6) (by omega)
    have d7 := hrow2.cell (i := 7) (by omega)
    clear hHeld3 hS2 hrow2
    go_wp2_with (fail)
    exact bodyPost_ret (v := .tuple #[.agg (eight []), .iface 95 (.pointer (some ⟨wA.heap.size, 0, none⟩))]) (by simp [results, Tryd.results42, go_sem, d0, d1, d2, d3, d4, d5, d6, d7]; rfl) rfl ⟨.inr ⟨hR.out, _, rfl⟩, hBl.out⟩
end Go.Proofs.YtkbbncobgmepbaaDoor

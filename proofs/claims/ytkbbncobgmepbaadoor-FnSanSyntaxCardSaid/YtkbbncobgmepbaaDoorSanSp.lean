/- Standard algebraic notation: the reference's SanParts. -/
import Derived.Test.YtkbbncobgmepbaaDoorSanSearch
namespace Go.Proofs.YtkbbncobgmepbaaDoor
open Go.ChangeShapes Go.WideShapes Go.ChangeAt Go.RowKit Go.PlainAid
set_option maxHeartbeats 4000000
set_option linter.unusedVariables false
set_option linter.unusedSimpArgs false
attribute [local go_sem] tx_list tx_size

def eightT (T : Nat → List UInt8) : Array Value := #[.string (tx (T 0)), .string (tx (T 1)), .string (tx (T 2)), .string (tx (T 3)), .string (tx (T 4)), .string (tx (T 5)), .string (tx (T 6)), .string (tx (T 7))]
def listT (T : Nat → List UInt8) : List (List UInt8) := [T 0, T 1, T 2, T 3, T 4, T 5, T 6, T 7]
theorem eightT_eq (T : Nat → List UInt8) : eightT T = eight (listT T) := rfl
theorem eightT_row {b t : Nat} {T : Nat → List UInt8} {w : World} {F : Nat → Value} (h : w.rowIs b t 8 F) : (w.setCells b 0 (eightT T).toList).rowIs b t 8 (tV T) :=
  (rowIs_whole h rfl).congr fun j hj => by
    have : j = 0 ∨ j = 1 ∨ j = 2 ∨ j = 3 ∨ j = 4 ∨ j = 5 ∨ j = 6 ∨ j = 7 := by omega
    rcases this with rfl | rfl | rfl | rfl | rfl | rfl | rfl | rfl <;> rfl
/-- What the search holds: the answer's block, its own parts. -/
def PartW (T : Nat → List UInt8) (w0 w : World) : Prop :=
  (∃ F, w.rowIs w0.heap.size 22 8 F) ∧ w.rowIs (w0.heap.size + 1) 22 8 (tV T) ∧ Below w0.heap.size w0 w
theorem PartW.below {T : Nat → List UInt8} {w0 w w' : World} (h : PartW T w0 w) (hb : Below w.heap.size w w') : PartW T w0 w' := by
  obtain ⟨⟨F, h1⟩, h2, h3⟩ := h
  exact ⟨⟨F, rowIs_below h1 hb h1.lt⟩, rowIs_below h2 hb h2.lt, h3.trans (hb.mono h3.size)⟩
theorem PartW.congr {T T' : Nat → List UInt8} {w0 w : World} (h : PartW T w0 w) (e : ∀ j, j < 8 → T j = T' j) : PartW T' w0 w :=
  ⟨h.1, h.2.1.congr fun j hj => by unfold tV; rw [e j hj], h.2.2⟩
theorem PartW.put {T : Nat → List UInt8} {w0 w : World} (h : PartW T w0 w) (k : Nat) (x : List UInt8) : PartW (fun j => if j = k then x else T j) w0 (w.setCell ⟨w0.heap.size + 1, k, none⟩ (.string (tx x))) := by
  obtain ⟨⟨F, h1⟩, h2, h3⟩ := h
  refine ⟨⟨F, h1.setOther (by simp) _⟩, (h2.set k _).congr fun j hj => ?_, h3.setCell (by simp) _⟩
  unfold tV
  show _ = Value.string (tx (if j = k then x else T j))
  by_cases e : j = k
  · rw [if_pos e, if_pos e]
  · rw [if_neg e, if_neg e]
theorem PartW.cells {T : Nat → List UInt8} {w0 w : World} (h : PartW T w0 w) : w.cell? ⟨w0.heap.size + 1, 0, none⟩ = some (.string (tx (T 0))) ∧ w.cell? ⟨w0.heap.size + 1, 1, none⟩ = some (.string (tx (T 1))) ∧ w.cell? ⟨w0.heap.size + 1, 2, none⟩ = some (.string (tx (T 2))) ∧ w.cell? ⟨w0.heap.size + 1, 3, none⟩ = some (.string (tx (T 3))) ∧ w.cell? ⟨w0.heap.size + 1, 4, none⟩ = some (.string (tx (T 4))) ∧ w.cell? ⟨w0.heap.size + 1, 5, none⟩ = some (.string (tx (T 5))) ∧ w.cell? ⟨w0.heap.size + 1, 6, none⟩ = some (.string (tx (T 6))) ∧ w.cell? ⟨w0.heap.size + 1, 7, none⟩ = some (.string (tx (T 7))) :=
  ⟨h.2.1.cell (i := 0) (by omega), h.2.1.cell (i := 1) (by omega), h.2.1.cell (i := 2) (by omega), h.2.1.cell (i := 3) (by omega), h.2.1.cell (i := 4) (by omega), h.2.1.cell (i := 5) (by omega), h.2.1.cell (i := 6) (by omega), h.2.1.cell (i := 7) (by omega)⟩
theorem PartW.there {T : Nat → List UInt8} {w0 w : World} (h : PartW T w0 w) : w.there w0.heap.size 0 8 := by
  obtain ⟨⟨F, h1⟩, _⟩ := h
  exact rowIs_there h1
theorem PartW.answer {T : Nat → List UInt8} {w0 w : World} (h : PartW T w0 w) (T' : Nat → List UInt8) : (w.setCells w0.heap.size 0 (eightT T').toList).rowIs w0.heap.size 22 8 (tV T') ∧ Below w0.heap.size w0 (w.setCells w0.heap.size 0 (eightT T').toList) := by
  obtain ⟨⟨F, h1⟩, _, h4⟩ := h
  exact ⟨eightT_row h1, below_setCells (Nat.le_refl _) _ _ _ h4⟩
def noT (j : Nat) : List UInt8 := []
def partW0 (w : World) : World := (w.alloc (.cells (eight []) 22)).alloc (.cells (eight []) 22)
theorem partW_new (w : World) : PartW noT w (partW0 w) := by
  have h1 := World.rowIs_alloc w (eight []) 22 (eightF []) (fun i hi => eight_get [] i hi)
  have h2 := World.rowIs_alloc (w.alloc (.cells (eight []) 22)) (eight []) 22 (eightF []) (fun i hi => eight_get [] i hi)
  rw [World.size_alloc] at h2
  exact ⟨⟨_, h1.alloc _⟩, h2.congr fun j hj => by simp [eightF, tV, noT], ((Below.refl _ _).alloc (Nat.le_refl _) _).alloc (by simp) _⟩
def PartS (w0 w : World) : Prop := ∃ T, PartW T w0 w
def SpPost (L : List UInt8) (w : World) (e : Ending) (w' : World) : Prop := (∃ l b, e = .returned (.tuple #[.agg (eight l), .bool b]) ∧ OutS L l b) ∧ Below w.heap.size w w'
theorem castB_def (L o : List UInt8) (n : Nat) (hn : o.length = n) : castB L o = (decide (n ≤ L.length) && (L.take n == o) && tailB L n) := by subst hn; rfl
theorem partW_lit (T : Nat → List UInt8) (w : World) : PartW T w ((w.alloc (.cells (eight []) 22)).alloc (.cells (eightT T) 22)) := by
  have h1 := World.rowIs_alloc w (eight []) 22 (eightF []) (fun i hi => eight_get [] i hi)
  have h2 := World.rowIs_alloc (w.alloc (.cells (eight []) 22)) (eightT T) 22 (tV T) (fun i hi => by
    have : i = 0 ∨ i = 1 ∨ i = 2 ∨ i = 3 ∨ i = 4 ∨ i = 5 ∨ i = 6 ∨ i = 7 := by have : i < 8 := hi; omega
    rcases this with rfl | rfl | rfl | rfl | rfl | rfl | rfl | rfl <;> rfl)
  rw [World.size_alloc] at h2
  exact ⟨⟨_, h1.alloc _⟩, h2, ((Below.refl _ _).alloc (Nat.le_refl _) _).alloc (by simp) _⟩
theorem PartW.setRow {T : Nat → List UInt8} {w0 w : World} (h : PartW T w0 w) (T' : Nat → List UInt8) : PartW T w0 (w.setCells w0.heap.size 0 (eightT T').toList) := by
  obtain ⟨⟨F, h1⟩, h2, h4⟩ := h
  exact ⟨⟨_, eightT_row h1⟩, h2.of_block (setCells_other _ _ _ _ _ (by omega)), below_setCells (Nat.le_refl _) _ _ _ h4⟩
def castT (x : List UInt8) (j : Nat) : List UInt8 := if j = 7 then x else []
theorem getD_take {L l : List UInt8} {n i : Nat} (h : L.take n = l) (hi : i < n) : L.getD i 0 = l.getD i 0 := by
  rw [← h, List.getD_eq_getElem?_getD, List.getD_eq_getElem?_getD, List.getElem?_take_of_lt hi]
theorem outS_A {L : List UInt8} (hl : 5 ≤ L.length) (hA : (L.take 5 == castA) = true) : OutS L (listT (castT castA)) (tailB L 5) := by
  have e := beq_iff_eq.1 hA
  have hn := noHit_O (getD_take e (by omega))
  have hd := castB_def L castA 5 rfl
  rw [decide_eq_true hl, hA, Bool.true_and, Bool.true_and] at hd
  cases ht : tailB L 5
  · right
    rw [ht] at hd
    refine ⟨⟨hn, hd, ?_⟩, rfl⟩
    rw [castB_def L castO 3 rfl]
    have h3 : tailB L 3 = false := by
      cases h : tailB L 3
      · rfl
      · have g3 : L.getD 3 0 = 45 := getD_take e (by omega)
        rcases tail_head h (by omega) with hs | ⟨hs, _⟩
        · unfold has at hs
          rw [g3] at hs
          simp [signS] at hs
        · rw [g3] at hs; cases hs
    rw [h3, Bool.and_false]
  · left
    rw [ht] at hd
    exact ⟨.inr (.inl ⟨hn, hd, rfl⟩), rfl, rfl⟩
theorem outS_O {L : List UInt8} (hl : 3 ≤ L.length) (hO : (L.take 3 == castO) = true) (hno : castB L castA = false) : OutS L (listT (castT castO)) (tailB L 3) := by
  have e := beq_iff_eq.1 hO
  have hn := noHit_O (getD_take e (by omega))
  have hd := castB_def L castO 3 rfl
  rw [decide_eq_true hl, hO, Bool.true_and, Bool.true_and] at hd
  cases ht : tailB L 3
  · rw [ht] at hd
    exact .inr ⟨⟨hn, hno, hd⟩, rfl⟩
  · rw [ht] at hd
    exact .inl ⟨.inr (.inr ⟨hn, hno, hd, rfl⟩), rfl, rfl⟩
theorem slice_from (R : List UInt8) (x : Int) (k : Nat) (hx : x = k) (hk : k ≤ R.length) (w : World) : (Instr.slice 9 (.string (tx R)) (some (.int .i64 x)) none none).run Tryd.prog w = .ok (.string (tx (R.drop k))) w := by
  subst hx
  rw [run_slice_string_from_if w _ _ _ _ Tryd.underlying9, if_pos ⟨by omega, by rw [tx_size]; omega⟩, Int.toNat_natCast, tx_extract, tx_size, List.take_length]
theorem castA_no {L : List UInt8} (h : ¬ 5 ≤ L.length ∨ (L.take 5 == castA) = false) : castB L castA = false := by
  rw [castB_def L castA 5 rfl]
  rcases h with h | h
  · rw [decide_eq_false h, Bool.false_and, Bool.false_and]
  · rw [h, Bool.and_false, Bool.false_and]
set_option maxRecDepth 100000 in
theorem sanParts_A (L : List UInt8) (hL : L.length ≤ 100) (hln : 5 ≤ L.length) (hA : (L.take 5 == castA) = true) (w : World) :
    Calls Tryd.prog 6 #[.string (tx L)] w fun e w' => SpPost L w e w' := by
  have hW := fun x => partW_lit (castT x) w
  have htl := fun w => sanTail_any (L.drop 5) (by rw [List.length_drop]; omega) w
  have hsf := slice_from L 5 5 rfl hln
  have hst := slice_to L 5 5 rfl hln
  rw [show mid L 0 5 = L.take 5 from rfl] at hst
  have hd1 : decide ((5 : Int) ≤ (L.length : Int)) = true := decide_eq_true (by omega)
  have hout : OutS L (listT (castT (L.take 5))) (tailL (L.drop 5)) := by
    rw [beq_iff_eq.1 hA]
    exact outS_A hln hA
  skip
  skip
  skip
  skip
  unfold castA at hA
  replace hW := Lib.hid hW
  replace htl := Lib.hid htl
  replace hout := Lib.hid hout
  generalize tailL (L.drop 5) = tb at *
  generalize L.take 5 = x at *
  generalize L.drop 5 = y at *
  skip
  go_enter Tryd.func6, Tryd.ntmps6
  go_wp2_with (fail)
  have hW := hW.out x
  change Code.wp _ _ _ _ ((w.alloc (.cells (eight []) 22)).alloc (.cells (eightT (castT x)) 22))
  generalize ((w.alloc (.cells (eight []) 22)).alloc (.cells (eightT (castT x)) 22)) = w1 at *
  generalize castT x = T at *
  refine held_any (S := PartW T w) (by kernel_rfl) (hW.below ⟨rfl, rfl, rfl, Nat.le_refl _, fun _ _ => rfl⟩) ?_
  intro wA hHeld
  clear hW
  refine wpAnyH_take (i := 0) (v := ?_) rfl (by kernel_rfl) (by kernel_rfl) (by kernel_rfl) (fun _ _ _ h => h) (Or.inl ⟨by rfl, ?_⟩) (by assumption) ?_
  rotate_left
  · (intro w hSw; obtain ⟨c0, c1, c2, c3, c4, c5, c6, c7⟩ := hSw.cells; go_simp; try with_reducible rfl)
  try simp only [List.getElem_toArray, List.getElem_cons_succ, List.getElem_cons_zero, Act.put, List.setIfInBounds_toArray, List.set_cons_zero, List.set_cons_succ]
  refine wpAnyH_take (i := 1) (v := ?_) rfl (by kernel_rfl) (by kernel_rfl) (by kernel_rfl) (fun _ _ _ h => h) (Or.inl ⟨by rfl, ?_⟩) (by assumption) ?_
  rotate_left
  · (intro w hSw; obtain ⟨c0, c1, c2, c3, c4, c5, c6, c7⟩ := hSw.cells; go_simp; try with_reducible rfl)
  try simp only [List.getElem_toArray, List.getElem_cons_succ, List.getElem_cons_zero, Act.put, List.setIfInBounds_toArray, List.set_cons_zero, List.set_cons_succ]
  refine wpAnyH_take (i := 2) (v := ?_) rfl (by kernel_rfl) (by kernel_rfl) (by kernel_rfl) (fun _ _ _ h => h) (Or.inl ⟨by rfl, ?_⟩) (by assumption) ?_
  rotate_left
  · (intro w hSw; obtain ⟨c0, c1, c2, c3, c4, c5, c6, c7⟩ := hSw.cells; go_simp; try with_reducible rfl)
  try simp only [List.getElem_toArray, List.getElem_cons_succ, List.getElem_cons_zero, Act.put, List.setIfInBounds_toArray, List.set_cons_zero, List.set_cons_succ]
  refine wpAnyH_take (i := 3) (v := ?_) rfl (by kernel_rfl) (by kernel_rfl) (by kernel_rfl) (fun _ _ _ h => h) (Or.inl ⟨by rfl, ?_⟩) (by assumption) ?_
  rotate_left
  · (intro w hSw; obtain ⟨c0, c1, c2, c3, c4, c5, c6, c7⟩ := hSw.cells; go_simp; try with_reducible rfl)
  try simp only [List.getElem_toArray, List.getElem_cons_succ, List.getElem_cons_zero, Act.put, List.setIfInBounds_toArray, List.set_cons_zero, List.set_cons_succ]
  refine wpAnyH_ready (rs := [4]) (by kernel_rfl) (by simp) ?_
  refine AllReadyH.cons rfl (fun K hK => ?_) AllReadyH.nil
  go_simp
  refine (htl.out _).mono ?_
  rintro e w' ⟨rfl, rfl⟩
  refine hK.out _ _ hHeld (fun hHeld2 => ?_)
  clear hK K hHeld2
  try simp only [List.getElem_toArray, List.getElem_cons_succ, List.getElem_cons_zero, Act.put, List.setIfInBounds_toArray, List.set_cons_zero, List.set_cons_succ]
  refine wpAnyH_ready (rs := [5]) (by kernel_rfl) (by simp) ?_
  refine AllReadyH.cons rfl (fun K hK => ?_) AllReadyH.nil
  rw [if_pos (by rfl)]
  refine wp_store_mid 22 _ _ rfl w.heap.size 0 (eightT T) rfl rfl hHeld.there (by kernel_rfl) (by simp [eightT, Value.oneCell']) ?_
  have hans := hHeld.answer T
  have hS2 := hHeld.setRow T
  generalize World.setCells _ _ _ _ = wB at *
  refine hK.out _ _ hS2 (fun hHeld2 => ?_)
  clear hK K hHeld hHeld2
  try simp only [List.getElem_toArray, List.getElem_cons_succ, List.getElem_cons_zero, Act.put, List.setIfInBounds_toArray, List.set_cons_zero, List.set_cons_succ]
  refine wpAnyH_take (i := 6) (v := ?_) rfl (by kernel_rfl) (by kernel_rfl) (by kernel_rfl) (fun _ _ _ h => h) (Or.inl ⟨by rfl, ?_⟩) (by assumption) ?_
  rotate_left
  · (intro w hSw; obtain ⟨c0, c1, c2, c3, c4, c5, c6, c7⟩ := hSw.cells; go_simp; try with_reducible rfl)
  try simp only [List.getElem_toArray, List.getElem_cons_succ, List.getElem_cons_zero, Act.put, List.setIfInBounds_toArray, List.set_cons_zero, List.set_cons_succ]
  refine wpAnyH_done (by kernel_rfl) ?_ _
  clear hS2
  obtain ⟨hrA, hBA⟩ := hans
  have d0 := hrA.cell (i := 0) (by omega)
  have d1 := hrA.cell (i := 1) (by omega)
  have d2 := hrA.cell (i := 2) (by omega)
  have d3 := hrA.cell (i := 3) (by omega)
  have d4 := hrA.cell (i := 4) (by omega)
  have d5 := hrA.cell (i := 5) (by omega)
  have d6 := hrA.cell (i := 6) (by omega)
  have d7 := hrA.cell (i := 7) (by omega)
  replace hBA := Lib.hid hBA
  clear hrA
  go_wp2_with (fail)
  exact bodyPost_ret (v := .tuple #[.agg (eight (listT T)), .bool tb]) (by simp [results, Tryd.results6, go_sem, d0, d1, d2, d3, d4, d5, d6, d7]; rfl) rfl ⟨⟨_, _, rfl, hout.out⟩, hBA.out⟩
set_option maxRecDepth 100000 in
theorem sanParts_O (L : List UInt8) (hL : L.length ≤ 100) (hln : 3 ≤ L.length) (hA : (L.take 3 == castO) = true) (h5 : ¬ 5 ≤ L.length) (w : World) :
    Calls Tryd.prog 6 #[.string (tx L)] w fun e w' => SpPost L w e w' := by
  have hW := fun x => partW_lit (castT x) w
  have htl := fun w => sanTail_any (L.drop 3) (by rw [List.length_drop]; omega) w
  have hsf := slice_from L 3 3 rfl hln
  have hst := slice_to L 3 3 rfl hln
  rw [show mid L 0 3 = L.take 3 from rfl] at hst
  have hd1 : decide ((3 : Int) ≤ (L.length : Int)) = true := decide_eq_true (by omega)
  have hout : OutS L (listT (castT (L.take 3))) (tailL (L.drop 3)) := by
    rw [beq_iff_eq.1 hA]
    exact outS_O hln hA (castA_no (.inl h5))
  have hd5 : decide ((5 : Int) ≤ (L.length : Int)) = false := decide_eq_false (by omega)
  skip
  skip
  skip
  unfold castO at hA
  replace hW := Lib.hid hW
  replace htl := Lib.hid htl
  replace hout := Lib.hid hout
  generalize tailL (L.drop 3) = tb at *
  generalize L.take 3 = x at *
  generalize L.drop 3 = y at *
  skip
  go_enter Tryd.func6, Tryd.ntmps6
  go_wp2_with (fail)
  have hW := hW.out x
  change Code.wp _ _ _ _ ((w.alloc (.cells (eight []) 22)).alloc (.cells (eightT (castT x)) 22))
  generalize ((w.alloc (.cells (eight []) 22)).alloc (.cells (eightT (castT x)) 22)) = w1 at *
  generalize castT x = T at *
  refine held_any (S := PartW T w) (by kernel_rfl) (hW.below ⟨rfl, rfl, rfl, Nat.le_refl _, fun _ _ => rfl⟩) ?_
  intro wA hHeld
  clear hW
  refine wpAnyH_take (i := 0) (v := ?_) rfl (by kernel_rfl) (by kernel_rfl) (by kernel_rfl) (fun _ _ _ h => h) (Or.inl ⟨by rfl, ?_⟩) (by assumption) ?_
  rotate_left
  · (intro w hSw; obtain ⟨c0, c1, c2, c3, c4, c5, c6, c7⟩ := hSw.cells; go_simp; try with_reducible rfl)
  try simp only [List.getElem_toArray, List.getElem_cons_succ, List.getElem_cons_zero, Act.put, List.setIfInBounds_toArray, List.set_cons_zero, List.set_cons_succ]
  refine wpAnyH_take (i := 1) (v := ?_) rfl (by kernel_rfl) (by kernel_rfl) (by kernel_rfl) (fun _ _ _ h => h) (Or.inl ⟨by rfl, ?_⟩) (by assumption) ?_
  rotate_left
  · (intro w hSw; obtain ⟨c0, c1, c2, c3, c4, c5, c6, c7⟩ := hSw.cells; go_simp; try with_reducible rfl)
  try simp only [List.getElem_toArray, List.getElem_cons_succ, List.getElem_cons_zero, Act.put, List.setIfInBounds_toArray, List.set_cons_zero, List.set_cons_succ]
  refine wpAnyH_take (i := 2) (v := ?_) rfl (by kernel_rfl) (by kernel_rfl) (by kernel_rfl) (fun _ _ _ h => h) (Or.inl ⟨by rfl, ?_⟩) (by assumption) ?_
  rotate_left
  · (intro w hSw; obtain ⟨c0, c1, c2, c3, c4, c5, c6, c7⟩ := hSw.cells; go_simp; try with_reducible rfl)
  try simp only [List.getElem_toArray, List.getElem_cons_succ, List.getElem_cons_zero, Act.put, List.setIfInBounds_toArray, List.set_cons_zero, List.set_cons_succ]
  refine wpAnyH_take (i := 3) (v := ?_) rfl (by kernel_rfl) (by kernel_rfl) (by kernel_rfl) (fun _ _ _ h => h) (Or.inl ⟨by rfl, ?_⟩) (by assumption) ?_
  rotate_left
  · (intro w hSw; obtain ⟨c0, c1, c2, c3, c4, c5, c6, c7⟩ := hSw.cells; go_simp; try with_reducible rfl)
  try simp only [List.getElem_toArray, List.getElem_cons_succ, List.getElem_cons_zero, Act.put, List.setIfInBounds_toArray, List.set_cons_zero, List.set_cons_succ]
  refine wpAnyH_ready (rs := [4]) (by kernel_rfl) (by simp) ?_
  refine AllReadyH.cons rfl (fun K hK => ?_) AllReadyH.nil
  go_simp
  refine (htl.out _).mono ?_
  rintro e w' ⟨rfl, rfl⟩
  refine hK.out _ _ hHeld (fun hHeld2 => ?_)
  clear hK K hHeld2
  try simp only [List.getElem_toArray, List.getElem_cons_succ, List.getElem_cons_zero, Act.put, List.setIfInBounds_toArray, List.set_cons_zero, List.set_cons_succ]
  refine wpAnyH_ready (rs := [5]) (by kernel_rfl) (by simp) ?_
  refine AllReadyH.cons rfl (fun K hK => ?_) AllReadyH.nil
  rw [if_pos (by rfl)]
  refine wp_store_mid 22 _ _ rfl w.heap.size 0 (eightT T) rfl rfl hHeld.there (by kernel_rfl) (by simp [eightT, Value.oneCell']) ?_
  have hans := hHeld.answer T
  have hS2 := hHeld.setRow T
  generalize World.setCells _ _ _ _ = wB at *
  refine hK.out _ _ hS2 (fun hHeld2 => ?_)
  clear hK K hHeld hHeld2
  try simp only [List.getElem_toArray, List.getElem_cons_succ, List.getElem_cons_zero, Act.put, List.setIfInBounds_toArray, List.set_cons_zero, List.set_cons_succ]
  refine wpAnyH_take (i := 6) (v := ?_) rfl (by kernel_rfl) (by kernel_rfl) (by kernel_rfl) (fun _ _ _ h => h) (Or.inl ⟨by rfl, ?_⟩) (by assumption) ?_
  rotate_left
  · (intro w hSw; obtain ⟨c0, c1, c2, c3, c4, c5, c6, c7⟩ := hSw.cells; go_simp; try with_reducible rfl)
  try simp only [List.getElem_toArray, List.getElem_cons_succ, List.getElem_cons_zero, Act.put, List.setIfInBounds_toArray, List.set_cons_zero, List.set_cons_succ]
  refine wpAnyH_done (by kernel_rfl) ?_ _
  clear hS2
  obtain ⟨hrA, hBA⟩ := hans
  have d0 := hrA.cell (i := 0) (by omega)
  have d1 := hrA.cell (i := 1) (by omega)
  have d2 := hrA.cell (i := 2) (by omega)
  have d3 := hrA.cell (i := 3) (by omega)
  have d4 := hrA.cell (i := 4) (by omega)
  have d5 := hrA.cell (i := 5) (by omega)
  have d6 := hrA.cell (i := 6) (by omega)
  have d7 := hrA.cell (i := 7) (by omega)
  replace hBA := Lib.hid hBA
  clear hrA
  go_wp2_with (fail)
  exact bodyPost_ret (v := .tuple #[.agg (eight (listT T)), .bool tb]) (by simp [results, Tryd.results6, go_sem, d0, d1, d2, d3, d4, d5, d6, d7]; rfl) rfl ⟨⟨_, _, rfl, hout.out⟩, hBA.out⟩
set_option maxRecDepth 100000 in
theorem sanParts_P (L : List UInt8) (hL : L.length ≤ 100) (hln : 3 ≤ L.length) (hA : (L.take 3 == castO) = true) (hl5 : 5 ≤ L.length) (h5 : (L.take 5 == castA) = false) (w : World) :
    Calls Tryd.prog 6 #[.string (tx L)] w fun e w' => SpPost L w e w' := by
  have hW := fun x => partW_lit (castT x) w
  have htl := fun w => sanTail_any (L.drop 3) (by rw [List.length_drop]; omega) w
  have hsf := slice_from L 3 3 rfl hln
  have hst := slice_to L 3 3 rfl hln
  rw [show mid L 0 3 = L.take 3 from rfl] at hst
  have hd1 : decide ((3 : Int) ≤ (L.length : Int)) = true := decide_eq_true (by omega)
  have hout : OutS L (listT (castT (L.take 3))) (tailL (L.drop 3)) := by
    rw [beq_iff_eq.1 hA]
    exact outS_O hln hA (castA_no (.inr h5))
  have hd5 : decide ((5 : Int) ≤ (L.length : Int)) = true := decide_eq_true (by omega)
  have hst5 := slice_to L 5 5 rfl hl5
  rw [show mid L 0 5 = L.take 5 from rfl] at hst5
  unfold castA at h5
  unfold castO at hA
  replace hW := Lib.hid hW
  replace htl := Lib.hid htl
  replace hout := Lib.hid hout
  generalize tailL (L.drop 3) = tb at *
  generalize L.take 3 = x at *
  generalize L.drop 3 = y at *
  generalize L.take 5 = z at *
  go_enter Tryd.func6, Tryd.ntmps6
  go_wp2_with (fail)
  have hW := hW.out x
  change Code.wp _ _ _ _ ((w.alloc (.cells (eight []) 22)).alloc (.cells (eightT (castT x)) 22))
  generalize ((w.alloc (.cells (eight []) 22)).alloc (.cells (eightT (castT x)) 22)) = w1 at *
  generalize castT x = T at *
  refine held_any (S := PartW T w) (by kernel_rfl) (hW.below ⟨rfl, rfl, rfl, Nat.le_refl _, fun _ _ => rfl⟩) ?_
  intro wA hHeld
  clear hW
  refine wpAnyH_take (i := 0) (v := ?_) rfl (by kernel_rfl) (by kernel_rfl) (by kernel_rfl) (fun _ _ _ h => h) (Or.inl ⟨by rfl, ?_⟩) (by assumption) ?_
  rotate_left
  · (intro w hSw; obtain ⟨c0, c1, c2, c3, c4, c5, c6, c7⟩ := hSw.cells; go_simp; try with_reducible rfl)
  try simp only [List.getElem_toArray, List.getElem_cons_succ, List.getElem_cons_zero, Act.put, List.setIfInBounds_toArray, List.set_cons_zero, List.set_cons_succ]
  refine wpAnyH_take (i := 1) (v := ?_) rfl (by kernel_rfl) (by kernel_rfl) (by kernel_rfl) (fun _ _ _ h => h) (Or.inl ⟨by rfl, ?_⟩) (by assumption) ?_
  rotate_left
  · (intro w hSw; obtain ⟨c0, c1, c2, c3, c4, c5, c6, c7⟩ := hSw.cells; go_simp; try with_reducible rfl)
  try simp only [List.getElem_toArray, List.getElem_cons_succ, List.getElem_cons_zero, Act.put, List.setIfInBounds_toArray, List.set_cons_zero, List.set_cons_succ]
  refine wpAnyH_take (i := 2) (v := ?_) rfl (by kernel_rfl) (by kernel_rfl) (by kernel_rfl) (fun _ _ _ h => h) (Or.inl ⟨by rfl, ?_⟩) (by assumption) ?_
  rotate_left
  · (intro w hSw; obtain ⟨c0, c1, c2, c3, c4, c5, c6, c7⟩ := hSw.cells; go_simp; try with_reducible rfl)
  try simp only [List.getElem_toArray, List.getElem_cons_succ, List.getElem_cons_zero, Act.put, List.setIfInBounds_toArray, List.set_cons_zero, List.set_cons_succ]
  refine wpAnyH_take (i := 3) (v := ?_) rfl (by kernel_rfl) (by kernel_rfl) (by kernel_rfl) (fun _ _ _ h => h) (Or.inl ⟨by rfl, ?_⟩) (by assumption) ?_
  rotate_left
  · (intro w hSw; obtain ⟨c0, c1, c2, c3, c4, c5, c6, c7⟩ := hSw.cells; go_simp; try with_reducible rfl)
  try simp only [List.getElem_toArray, List.getElem_cons_succ, List.getElem_cons_zero, Act.put, List.setIfInBounds_toArray, List.set_cons_zero, List.set_cons_succ]
  refine wpAnyH_ready (rs := [4]) (by kernel_rfl) (by simp) ?_
  refine AllReadyH.cons rfl (fun K hK => ?_) AllReadyH.nil
  go_simp
  refine (htl.out _).mono ?_
  rintro e w' ⟨rfl, rfl⟩
  refine hK.out _ _ hHeld (fun hHeld2 => ?_)
  clear hK K hHeld2
  try simp only [List.getElem_toArray, List.getElem_cons_succ, List.getElem_cons_zero, Act.put, List.setIfInBounds_toArray, List.set_cons_zero, List.set_cons_succ]
  refine wpAnyH_ready (rs := [5]) (by kernel_rfl) (by simp) ?_
  refine AllReadyH.cons rfl (fun K hK => ?_) AllReadyH.nil
  rw [if_pos (by rfl)]
  refine wp_store_mid 22 _ _ rfl w.heap.size 0 (eightT T) rfl rfl hHeld.there (by kernel_rfl) (by simp [eightT, Value.oneCell']) ?_
  have hans := hHeld.answer T
  have hS2 := hHeld.setRow T
  generalize World.setCells _ _ _ _ = wB at *
  refine hK.out _ _ hS2 (fun hHeld2 => ?_)
  clear hK K hHeld hHeld2
  try simp only [List.getElem_toArray, List.getElem_cons_succ, List.getElem_cons_zero, Act.put, List.setIfInBounds_toArray, List.set_cons_zero, List.set_cons_succ]
  refine wpAnyH_take (i := 6) (v := ?_) rfl (by kernel_rfl) (by kernel_rfl) (by kernel_rfl) (fun _ _ _ h => h) (Or.inl ⟨by rfl, ?_⟩) (by assumption) ?_
  rotate_left
  · (intro w hSw; obtain ⟨c0, c1, c2, c3, c4, c5, c6, c7⟩ := hSw.cells; go_simp; try with_reducible rfl)
  try simp only [List.getElem_toArray, List.getElem_cons_succ, List.getElem_cons_zero, Act.put, List.setIfInBounds_toArray, List.set_cons_zero, List.set_cons_succ]
  refine wpAnyH_done (by kernel_rfl) ?_ _
  clear hS2
  obtain ⟨hrA, hBA⟩ := hans
  have d0 := hrA.cell (i := 0) (by omega)
  have d1 := hrA.cell (i := 1) (by omega)
  have d2 := hrA.cell (i := 2) (by omega)
  have d3 := hrA.cell (i := 3) (by omega)
  have d4 := hrA.cell (i := 4) (by omega)
  have d5 := hrA.cell (i := 5) (by omega)
  have d6 := hrA.cell (i := 6) (by omega)
  have d7 := hrA.cell (i := 7) (by omega)
  replace hBA := Lib.hid hBA
  clear hrA
  go_wp2_with (fail)
  exact bodyPost_ret (v := .tuple #[.agg (eight (listT T)), .bool tb]) (by simp [results, Tryd.results6, go_sem, d0, d1, d2, d3, d4, d5, d6, d7]; rfl) rfl ⟨⟨_, _, rfl, hout.out⟩, hBA.out⟩
end Go.Proofs.YtkbbncobgmepbaaDoor

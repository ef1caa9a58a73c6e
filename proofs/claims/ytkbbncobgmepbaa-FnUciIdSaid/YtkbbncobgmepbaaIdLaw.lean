/- The wrapper impl.IdRead and the law FnUciId. -/
import Derived.Test.YtkbbncobgmepbaaIdRead
namespace Go.Proofs.Ytkbbncobgmepbaa.UciId
open Go.ChangeShapes Go.WideShapes Go.ChangeAt Go.RowKit Go.PlainAid
set_option maxHeartbeats 1000000
set_option linter.unusedVariables false
set_option linter.unusedSimpArgs false
attribute [local go_sem] tx_list tx_size

theorem doorID_any (L : List UInt8) (hL : L.length ≤ 400) (hA : L.take 2 = idT → 2 < L.length → L.getD 2 0 = 32) (w : World) :
    Calls Try.prog 17 #[.string (tx L)] w fun e w' => ProgId L e ∧ Below w.heap.size w w' := by
  have hpi := Lib.hid (parseID_any L hL hA w)
  cases hsp : specIs L
  · replace hsp := Lib.hid hsp
    go_enter Try.func17, Try.ntmps17
    go_wp2_with (go_at_call 21; refine hpi.out.mono ?_; rintro e w1 ⟨hpr, hb1⟩; obtain ⟨a, rfl⟩ := (show ProgId L e from hpr).elim (fun h => absurd (h.1.symm.trans hsp.out) (by simp)) (fun h => h.2); clear hpr)
    first | go_ret2 | go_ret3
    exact ⟨.inr ⟨hsp.out, _, rfl⟩, hb1⟩
  · replace hsp := Lib.hid hsp
    go_enter Try.func17, Try.ntmps17
    go_wp2_with (go_at_call 21; refine hpi.out.mono ?_; rintro e w1 ⟨hpr, hb1⟩; obtain rfl := (show ProgId L e from hpr).elim (fun h => h.2) (fun h => absurd (hsp.out.symm.trans h.1) (by simp)); clear hpr)
    first | go_ret2 | go_ret3
    exact ⟨.inl ⟨hsp.out, rfl⟩, hb1⟩
theorem clo_IdRead (p0 p1 p2 : Addr) (w : World) :
    CallsD Try.prog 16 #[.pointer (some p0), .pointer (some p1), .pointer (some p2)] .returning w fun e u' w' => e = .returned (.tuple #[]) ∧ u' = .returning ∧ w' = w := by
  refine callsD_of_wpS Try.func16 rfl fun c₀ cs hu => ?_
  apply wpS_seq
  apply wpS_region
  simp [wpOpsS, go_sem, recoverD, hu, Try.ntmps16, Exit.thenS]
  refine wpS_cond (t := false) (by simp [Act.eval, Array.replicate]) ?_
  simp only [Bool.false_eq_true, if_false]
  refine wpS_of_wp (wp_skip ?_)
  cases c₀
  simp_all [bodyPostS, results, Try.results16]

def ImplId (L : List UInt8) (e : Ending) : Prop :=
  (specIs L = true ∧ e = .returned (.tuple #[.string (tx (wordAt L 1)), .string (tx (L.drop (4 + (wordAt L 1).length))), .bool true])) ∨
  (specIs L = false ∧ e = .returned (.tuple #[.string ⟨#[]⟩, .string ⟨#[]⟩, .bool false]))
def laidI (w : World) : World := ((w.alloc (.cells #[.string ⟨#[]⟩] 9)).alloc (.cells #[.string ⟨#[]⟩] 9)).alloc (.cells #[.bool false] 4)
theorem laidI_facts (w : World) : (laidI w).heap.size = w.heap.size + 3 ∧ (laidI w).rowIs w.heap.size 9 1 (fun _ => .string ⟨#[]⟩) ∧ (laidI w).rowIs (w.heap.size + 1) 9 1 (fun _ => .string ⟨#[]⟩) ∧ (laidI w).rowIs (w.heap.size + 1 + 1) 4 1 (fun _ => .bool false) ∧ Below w.heap.size w (laidI w) := by
  have hone : ∀ (v : World) (t : TypeId) (x : Value), (v.alloc (.cells #[x] t)).rowIs v.heap.size t 1 (fun _ => x) := fun v t x => World.rowIs_alloc v #[x] t (fun _ => x) (fun i hi => by obtain rfl : i = 0 := (by simp at hi; omega); rfl)
  have h1 := hone w 9 (.string ⟨#[]⟩)
  have h2 := hone (w.alloc (.cells #[.string ⟨#[]⟩] 9)) 9 (.string ⟨#[]⟩)
  have h3 := hone ((w.alloc (.cells #[.string ⟨#[]⟩] 9)).alloc (.cells #[.string ⟨#[]⟩] 9)) 4 (.bool false)
  rw [World.size_alloc] at h2
  rw [World.size_alloc, World.size_alloc] at h3
  exact ⟨by simp [laidI], (h1.alloc _).alloc _, h2.alloc _, h3, (((Below.refl _ _).alloc (Nat.le_refl _) _).alloc (by simp) _).alloc (by simp; omega) _⟩
theorem put_facts {w w1 : World} (hb : Below w.heap.size w (laidI w)) (hs : (laidI w).heap.size = w.heap.size + 3) (x y : Value) {x0 y0 z : Value}
    (q1 : w1.rowIs w.heap.size 9 1 (fun _ => x0)) (q2 : w1.rowIs (w.heap.size + 1) 9 1 (fun _ => y0)) (q3 : w1.rowIs (w.heap.size + 1 + 1) 4 1 (fun _ => z)) (hb1 : Below (laidI w).heap.size (laidI w) w1) :
    ((w1.setCell ⟨w.heap.size, 0, none⟩ x).setCell ⟨w.heap.size + 1, 0, none⟩ y).rowIs w.heap.size 9 1 (fun _ => x) ∧
    ((w1.setCell ⟨w.heap.size, 0, none⟩ x).setCell ⟨w.heap.size + 1, 0, none⟩ y).rowIs (w.heap.size + 1) 9 1 (fun _ => y) ∧
    ((w1.setCell ⟨w.heap.size, 0, none⟩ x).setCell ⟨w.heap.size + 1, 0, none⟩ y).rowIs (w.heap.size + 1 + 1) 4 1 (fun _ => z) ∧
    Below w.heap.size w ((w1.setCell ⟨w.heap.size, 0, none⟩ x).setCell ⟨w.heap.size + 1, 0, none⟩ y) := by
  refine ⟨(((q1.set 0 x).congr fun j hj => ?_)).setOther (by simp) _, ((q2.setOther (by simp) _).set 0 y).congr fun j hj => ?_, (q3.setOther (by simp; omega) _).setOther (by simp) _, ((hb.trans (hb1.mono (by omega))).setCell (by simp) _).setCell (by simp) _⟩
  all_goals (obtain rfl : j = 0 := (by omega); simp)
/-- What the results' region leaves as it is. -/
def Res (w : World) (x y : Value) (v : World) : Prop :=
  v.rowIs w.heap.size 9 1 (fun _ => x) ∧ v.rowIs (w.heap.size + 1) 9 1 (fun _ => y) ∧ (∃ z, v.rowIs (w.heap.size + 1 + 1) 4 1 (fun _ => .bool z)) ∧ Below w.heap.size w v
theorem Res.drew {w v : World} {x y : Value} (h : Res w x y v) : Res w x y v.drew := by
  obtain ⟨h1, h2, ⟨z, h3⟩, h4⟩ := h
  exact ⟨h1.of_block rfl, h2.of_block rfl, ⟨z, h3.of_block rfl⟩, h4.drew⟩
theorem Res.set1 {w v : World} {x y : Value} (h : Res w x y v) : Res w x y (v.setCell ⟨w.heap.size, 0, none⟩ x) := by
  obtain ⟨h1, h2, ⟨z, h3⟩, h4⟩ := h
  exact ⟨(h1.set 0 x).congr fun j hj => (by obtain rfl : j = 0 := (by omega); simp), h2.setOther (by simp) _, ⟨z, h3.setOther (by simp; omega) _⟩, h4.setCell (by simp) _⟩
theorem Res.set2 {w v : World} {x y : Value} (h : Res w x y v) : Res w x y (v.setCell ⟨w.heap.size + 1, 0, none⟩ y) := by
  obtain ⟨h1, h2, ⟨z, h3⟩, h4⟩ := h
  exact ⟨h1.setOther (by simp) _, (h2.set 0 y).congr fun j hj => (by obtain rfl : j = 0 := (by omega); simp), ⟨z, h3.setOther (by simp) _⟩, h4.setCell (by simp) _⟩
theorem Res.set3 {w v : World} {x y : Value} (h : Res w x y v) (b : Bool) : Res w x y (v.setCell ⟨w.heap.size + 1 + 1, 0, none⟩ (.bool b)) := by
  obtain ⟨h1, h2, ⟨z, h3⟩, h4⟩ := h
  exact ⟨h1.setOther (by simp; omega) _, h2.setOther (by simp) _, ⟨b, (h3.set 0 (.bool b)).congr fun j hj => (by obtain rfl : j = 0 := (by omega); simp)⟩, h4.setCell (by simp; omega) _⟩
theorem Res.cells {w v : World} {x y : Value} (h : Res w x y v) : v.cell? ⟨w.heap.size, 0, none⟩ = some x ∧ v.cell? ⟨w.heap.size + 1, 0, none⟩ = some y ∧ (∃ z, v.cell? ⟨w.heap.size + 1 + 1, 0, none⟩ = some (.bool z)) ∧ v.frozen? ⟨w.heap.size, 0, none⟩ = false ∧ v.frozen? ⟨w.heap.size + 1, 0, none⟩ = false ∧ v.frozen? ⟨w.heap.size + 1 + 1, 0, none⟩ = false := by
  obtain ⟨h1, h2, ⟨z, h3⟩, h4⟩ := h
  exact ⟨h1.cell (by omega), h2.cell (by omega), ⟨z, h3.cell (by omega)⟩, h1.frozen 0, h2.frozen 0, h3.frozen 0⟩
set_option maxRecDepth 100000 in
theorem implId_no (L : List UInt8) (x y : ByteArray) (w : World)
    (hdoor : Calls Try.prog 17 #[.string (tx L)] (laidI w) fun e w' => (∃ a : Nat, e = .returned (.tuple #[.string x, .string y, .iface 50 (.pointer (some ⟨a, 0, none⟩))])) ∧ Below (laidI w).heap.size (laidI w) w') :
    Calls Try.prog 11 #[.string (tx L)] w fun e w' => e = .returned (.tuple #[.string x, .string y, .bool false]) ∧ Below w.heap.size w w' := by
  have hmf := mkf Try.prog
  obtain ⟨hs, hr1, hr2, hr3, hb⟩ := laidI_facts w
  replace hdoor := Lib.hid hdoor
  replace hb := Lib.hid hb
  go_enter_defers Try.func11, Try.ntmps11
  go_wp2_with (go_at_call 17; refine hdoor.out.mono ?_; rintro e w1 ⟨⟨a, rfl⟩, hb1⟩; have q1 := rowIs_below hr1 hb1 (by omega); have q2 := rowIs_below hr2 hb1 (by omega); have q3 := rowIs_below hr3 hb1 (by omega); have k1 := q1.cell (i := 0) (by omega); have k2 := q2.cell (i := 0) (by omega); have k3 := q3.cell (i := 0) (by omega); have f1 := q1.frozen 0; have f2 := q2.frozen 0; have f3 := q3.frozen 0)
  obtain ⟨p1, p2, p3, pB⟩ := put_facts hb.out hs (.string x) (.string y) q1 q2 q3 hb1
  have h : Res w (.string x) (.string y) ((w1.setCell ⟨w.heap.size, 0, none⟩ (.string x)).setCell ⟨w.heap.size + 1, 0, none⟩ (.string y)) := ⟨p1, p2, ⟨_, p3⟩, pB⟩
  clear p1 p2 p3 pB q1 q2 q3 k1 k2 k3 f1 f2 f3 hr1 hr2 hr3 hb1
  generalize ((w1.setCell ⟨w.heap.size, 0, none⟩ (.string x)).setCell ⟨w.heap.size + 1, 0, none⟩ (.string y)) = w4 at *
  refine wp_region_noPanic ?_
  refine wp_region_held_drew (S := Res w (.string x) (.string y)) (by kernel_rfl) h.drew (fun hHeld => ?_)
  clear h
  refine wpAnyH_take (i := 0) (v := ?_) rfl (by kernel_rfl) (by kernel_rfl) (by kernel_rfl) (fun _ _ _ h => h) (Or.inl ⟨by rfl, ?_⟩) (by assumption) ?_
  rotate_left
  · (intro w hSw; obtain ⟨c1, c2, _⟩ := hSw.cells; go_simp; try with_reducible rfl)
  try simp only [List.getElem_toArray, List.getElem_cons_succ, List.getElem_cons_zero, Act.put, List.setIfInBounds_toArray, List.set_cons_zero, List.set_cons_succ]
  refine wpAnyH_take (i := 1) (v := ?_) rfl (by kernel_rfl) (by kernel_rfl) (by kernel_rfl) (fun _ _ _ h => h) (Or.inl ⟨by rfl, ?_⟩) (by assumption) ?_
  rotate_left
  · (intro w hSw; obtain ⟨c1, c2, _⟩ := hSw.cells; go_simp; try with_reducible rfl)
  try simp only [List.getElem_toArray, List.getElem_cons_succ, List.getElem_cons_zero, Act.put, List.setIfInBounds_toArray, List.set_cons_zero, List.set_cons_succ]
  refine wpAnyH_take (i := 2) (v := ?_) rfl (by kernel_rfl) (by kernel_rfl) (by kernel_rfl) (fun _ _ _ h => h) (Or.inl ⟨by rfl, ?_⟩) (by assumption) ?_
  rotate_left
  · (intro w hSw); go_simp; try with_reducible rfl
  try simp only [List.getElem_toArray, List.getElem_cons_succ, List.getElem_cons_zero, Act.put, List.setIfInBounds_toArray, List.set_cons_zero, List.set_cons_succ]
  refine wpAnyH_take (i := 3) (v := ?_) rfl (by kernel_rfl) (by kernel_rfl) (by kernel_rfl) (fun _ _ _ h => h) (Or.inl ⟨by rfl, ?_⟩) (by assumption) ?_
  rotate_left
  · (intro w hSw); go_simp; try with_reducible rfl
  try simp only [List.getElem_toArray, List.getElem_cons_succ, List.getElem_cons_zero, Act.put, List.setIfInBounds_toArray, List.set_cons_zero, List.set_cons_succ]
  refine wpAnyH_ready (rs := [4]) (by kernel_rfl) (by simp) ?_
  refine AllReadyH.cons rfl (fun K hK => ?_) AllReadyH.nil
  obtain ⟨c1, c2, ⟨z, c3⟩, f1, f2, f3⟩ := hHeld.cells
  go_simp
  refine hK.out _ _ hHeld.set1 (fun hHeld => ?_)
  clear hK K c1 c2 c3 f1 f2 f3
  refine wpAnyH_ready (rs := [5]) (by kernel_rfl) (by simp) ?_
  refine AllReadyH.cons rfl (fun K hK => ?_) AllReadyH.nil
  obtain ⟨c1, c2, ⟨z, c3⟩, f1, f2, f3⟩ := hHeld.cells
  go_simp
  refine hK.out _ _ hHeld.set2 (fun hHeld => ?_)
  clear hK K c1 c2 c3 f1 f2 f3
  refine wpAnyH_ready (rs := [6]) (by kernel_rfl) (by simp) ?_
  refine AllReadyH.cons rfl (fun K hK => ?_) AllReadyH.nil
  obtain ⟨c1, c2, ⟨z, c3⟩, f1, f2, f3⟩ := hHeld.cells
  go_simp
  have hlast := World.cell?_setCell_same _ _ (.bool false) c3
  refine hK.out _ _ (hHeld.set3 false) (fun hHeld => ?_)
  clear hK K
  refine wpAnyH_done (by kernel_rfl) (NoPanic.normal ?_) _
  have hB := hHeld.2.2.2
  obtain ⟨d1, d2, ⟨z', d3⟩, e1, e2, e3⟩ := hHeld.cells
  have hz : some (Value.bool z') = some (Value.bool false) := d3.symm.trans hlast
  obtain rfl : z' = false := by simpa using hz
  clear hz hlast c1 c2 c3 f1 f2 f3
  clear hHeld
  replace hB := Lib.hid hB
  generalize (((w4.setCell ⟨w.heap.size, 0, none⟩ (Value.string x)).setCell ⟨w.heap.size + 1, 0, none⟩ (Value.string y)).setCell ⟨w.heap.size + 1 + 1, 0, none⟩ (Value.bool false)).drew = wE at *
  go_wp2_with (fail)
  refine leaves_cons (f := 16) (args := #[.pointer (some ⟨w.heap.size, 0, none⟩), .pointer (some ⟨w.heap.size + 1, 0, none⟩), .pointer (some ⟨w.heap.size + 2, 0, none⟩)]) (by simp) (by simp [go_sem]) ?_; refine (clo_IdRead _ _ _ _).mono ?_; rintro e u' w'' ⟨rfl, rfl, rfl⟩
  simp [Leaves, settle, results, Try.results11, asAddr, go_sem, d1, d2, d3]
  exact hB.out
set_option maxRecDepth 100000 in
theorem implId_yes (L : List UInt8) (x y : ByteArray) (w : World)
    (hdoor : Calls Try.prog 17 #[.string (tx L)] (laidI w) fun e w' => e = .returned (.tuple #[.string x, .string y, .nilIface]) ∧ Below (laidI w).heap.size (laidI w) w') :
    Calls Try.prog 11 #[.string (tx L)] w fun e w' => e = .returned (.tuple #[.string x, .string y, .bool true]) ∧ Below w.heap.size w w' := by
  have hmf := mkf Try.prog
  obtain ⟨hs, hr1, hr2, hr3, hb⟩ := laidI_facts w
  replace hdoor := Lib.hid hdoor
  replace hb := Lib.hid hb
  go_enter_defers Try.func11, Try.ntmps11
  go_wp2_with (go_at_call 17; refine hdoor.out.mono ?_; rintro e w1 ⟨rfl, hb1⟩; have q1 := rowIs_below hr1 hb1 (by omega); have q2 := rowIs_below hr2 hb1 (by omega); have q3 := rowIs_below hr3 hb1 (by omega); have k1 := q1.cell (i := 0) (by omega); have k2 := q2.cell (i := 0) (by omega); have k3 := q3.cell (i := 0) (by omega); have f1 := q1.frozen 0; have f2 := q2.frozen 0; have f3 := q3.frozen 0)
  obtain ⟨p1, p2, p3, pB⟩ := put_facts hb.out hs (.string x) (.string y) q1 q2 q3 hb1
  have h : Res w (.string x) (.string y) ((w1.setCell ⟨w.heap.size, 0, none⟩ (.string x)).setCell ⟨w.heap.size + 1, 0, none⟩ (.string y)) := ⟨p1, p2, ⟨_, p3⟩, pB⟩
  clear p1 p2 p3 pB q1 q2 q3 k1 k2 k3 f1 f2 f3 hr1 hr2 hr3 hb1
  generalize ((w1.setCell ⟨w.heap.size, 0, none⟩ (.string x)).setCell ⟨w.heap.size + 1, 0, none⟩ (.string y)) = w4 at *
  refine wp_region_noPanic ?_
  refine wp_region_held_drew (S := Res w (.string x) (.string y)) (by kernel_rfl) h.drew (fun hHeld => ?_)
  clear h
  refine wpAnyH_take (i := 0) (v := ?_) rfl (by kernel_rfl) (by kernel_rfl) (by kernel_rfl) (fun _ _ _ h => h) (Or.inl ⟨by rfl, ?_⟩) (by assumption) ?_
  rotate_left
  · (intro w hSw; obtain ⟨c1, c2, _⟩ := hSw.cells; go_simp; try with_reducible rfl)
  try simp only [List.getElem_toArray, List.getElem_cons_succ, List.getElem_cons_zero, Act.put, List.setIfInBounds_toArray, List.set_cons_zero, List.set_cons_succ]
  refine wpAnyH_take (i := 1) (v := ?_) rfl (by kernel_rfl) (by kernel_rfl) (by kernel_rfl) (fun _ _ _ h => h) (Or.inl ⟨by rfl, ?_⟩) (by assumption) ?_
  rotate_left
  · (intro w hSw; obtain ⟨c1, c2, _⟩ := hSw.cells; go_simp; try with_reducible rfl)
  try simp only [List.getElem_toArray, List.getElem_cons_succ, List.getElem_cons_zero, Act.put, List.setIfInBounds_toArray, List.set_cons_zero, List.set_cons_succ]
  refine wpAnyH_take (i := 2) (v := ?_) rfl (by kernel_rfl) (by kernel_rfl) (by kernel_rfl) (fun _ _ _ h => h) (Or.inl ⟨by rfl, ?_⟩) (by assumption) ?_
  rotate_left
  · (intro w hSw); go_simp; try with_reducible rfl
  try simp only [List.getElem_toArray, List.getElem_cons_succ, List.getElem_cons_zero, Act.put, List.setIfInBounds_toArray, List.set_cons_zero, List.set_cons_succ]
  refine wpAnyH_take (i := 3) (v := ?_) rfl (by kernel_rfl) (by kernel_rfl) (by kernel_rfl) (fun _ _ _ h => h) (Or.inl ⟨by rfl, ?_⟩) (by assumption) ?_
  rotate_left
  · (intro w hSw); go_simp; try with_reducible rfl
  try simp only [List.getElem_toArray, List.getElem_cons_succ, List.getElem_cons_zero, Act.put, List.setIfInBounds_toArray, List.set_cons_zero, List.set_cons_succ]
  refine wpAnyH_ready (rs := [4]) (by kernel_rfl) (by simp) ?_
  refine AllReadyH.cons rfl (fun K hK => ?_) AllReadyH.nil
  obtain ⟨c1, c2, ⟨z, c3⟩, f1, f2, f3⟩ := hHeld.cells
  go_simp
  refine hK.out _ _ hHeld.set1 (fun hHeld => ?_)
  clear hK K c1 c2 c3 f1 f2 f3
  refine wpAnyH_ready (rs := [5]) (by kernel_rfl) (by simp) ?_
  refine AllReadyH.cons rfl (fun K hK => ?_) AllReadyH.nil
  obtain ⟨c1, c2, ⟨z, c3⟩, f1, f2, f3⟩ := hHeld.cells
  go_simp
  refine hK.out _ _ hHeld.set2 (fun hHeld => ?_)
  clear hK K c1 c2 c3 f1 f2 f3
  refine wpAnyH_ready (rs := [6]) (by kernel_rfl) (by simp) ?_
  refine AllReadyH.cons rfl (fun K hK => ?_) AllReadyH.nil
  obtain ⟨c1, c2, ⟨z, c3⟩, f1, f2, f3⟩ := hHeld.cells
  go_simp
  have hlast := World.cell?_setCell_same _ _ (.bool true) c3
  refine hK.out _ _ (hHeld.set3 true) (fun hHeld => ?_)
  clear hK K
  refine wpAnyH_done (by kernel_rfl) (NoPanic.normal ?_) _
  have hB := hHeld.2.2.2
  obtain ⟨d1, d2, ⟨z', d3⟩, e1, e2, e3⟩ := hHeld.cells
  have hz : some (Value.bool z') = some (Value.bool true) := d3.symm.trans hlast
  obtain rfl : z' = true := by simpa using hz
  clear hz hlast c1 c2 c3 f1 f2 f3
  clear hHeld
  replace hB := Lib.hid hB
  generalize (((w4.setCell ⟨w.heap.size, 0, none⟩ (Value.string x)).setCell ⟨w.heap.size + 1, 0, none⟩ (Value.string y)).setCell ⟨w.heap.size + 1 + 1, 0, none⟩ (Value.bool true)).drew = wE at *
  go_wp2_with (fail)
  refine leaves_cons (f := 16) (args := #[.pointer (some ⟨w.heap.size, 0, none⟩), .pointer (some ⟨w.heap.size + 1, 0, none⟩), .pointer (some ⟨w.heap.size + 2, 0, none⟩)]) (by simp) (by simp [go_sem]) ?_; refine (clo_IdRead _ _ _ _).mono ?_; rintro e u' w'' ⟨rfl, rfl, rfl⟩
  simp [Leaves, settle, results, Try.results11, asAddr, go_sem, d1, d2, d3]
  exact hB.out
theorem impl_yes (L : List UInt8) (hL : L.length ≤ 400) (hA : L.take 2 = idT → 2 < L.length → L.getD 2 0 = 32) (hsp : specIs L = true) (w : World) :
    Calls Try.prog 11 #[.string (tx L)] w fun e w' => e = .returned (.tuple #[.string (tx (wordAt L 1)), .string (tx (L.drop (4 + (wordAt L 1).length))), .bool true]) ∧ Below w.heap.size w w' :=
  implId_yes L _ _ w ((doorID_any L hL hA (laidI w)).mono fun e w' h => ⟨h.1.elim (fun h => h.2) (fun h => absurd (hsp.symm.trans h.1) (by simp)), h.2⟩)
theorem impl_no (L : List UInt8) (hL : L.length ≤ 400) (hA : L.take 2 = idT → 2 < L.length → L.getD 2 0 = 32) (hsp : specIs L = false) (w : World) :
    Calls Try.prog 11 #[.string (tx L)] w fun e w' => e = .returned (.tuple #[.string ⟨#[]⟩, .string ⟨#[]⟩, .bool false]) ∧ Below w.heap.size w w' :=
  implId_no L _ _ w ((doorID_any L hL hA (laidI w)).mono fun e w' h => ⟨h.1.elim (fun h => absurd (h.1.symm.trans hsp) (by simp)) (fun h => h.2), h.2⟩)
theorem spec_yes (L : List UInt8) (hL : L.length ≤ 400) (hsp : specIs L = true) (w : World) :
    Calls Try.prog 10 #[.string (tx L)] w fun e w' => e = .returned (.tuple #[.string (tx (wordAt L 1)), .string (tx (L.drop (4 + (wordAt L 1).length))), .bool true]) ∧ Below w.heap.size w w' :=
  (specId_any L hL w).mono fun e w' h => ⟨h.1.elim (fun h => h.2) (fun h => absurd (hsp.symm.trans h.1) (by simp)), h.2⟩
theorem spec_no (L : List UInt8) (hL : L.length ≤ 400) (hsp : specIs L = false) (w : World) :
    Calls Try.prog 10 #[.string (tx L)] w fun e w' => e = .returned (.tuple #[.string ⟨#[]⟩, .string ⟨#[]⟩, .bool false]) ∧ Below w.heap.size w w' :=
  (specId_any L hL w).mono fun e w' h => ⟨h.1.elim (fun h => absurd (h.1.symm.trans hsp) (by simp)) (fun h => h.2), h.2⟩
set_option maxRecDepth 100000 in
theorem walk_long (L : List UInt8) (hs : 2147483647 < L.length) (W : World) :
    Calls Try.prog 4 #[.string (tx L)] W fun e w' => e = .returned (.bool true) ∧ Below W.heap.size W w' := by
  have hd : decide ((2147483647 : Int) < (L.length : Int)) = true := by simp; omega
  go_enter Try.func4, Try.ntmps4
  go_wp2
  go_ret
  exact ⟨rfl, Below.refl _ _⟩
set_option maxRecDepth 100000 in
theorem walk_400 (L : List UInt8) (hs : L.length ≤ 2147483647) (h4 : 400 < L.length) (W : World) :
    Calls Try.prog 4 #[.string (tx L)] W fun e w' => e = .returned (.bool true) ∧ Below W.heap.size W w' := by
  have hd : decide ((2147483647 : Int) < (L.length : Int)) = false := by simp; omega
  have hd2 : decide ((400 : Int) < (L.length : Int)) = true := by simp; omega
  go_enter Try.func4, Try.ntmps4
  go_wp2
  go_ret
  exact ⟨rfl, Below.refl _ _⟩
set_option maxRecDepth 100000 in
theorem walk_out (L : List UInt8) (hs : L.length ≤ 400) (h2 : 2 < L.length) (hi : L.take 2 = idT) (hc : L.getD 2 0 ≠ 32) (W : World) :
    Calls Try.prog 4 #[.string (tx L)] W fun e w' => e = .returned (.bool true) ∧ Below W.heap.size W w' := by
  have hd : decide ((2147483647 : Int) < (L.length : Int)) = false := by simp; omega
  have hd2 : decide ((400 : Int) < (L.length : Int)) = false := by simp; omega
  have hd3 : decide ((2 : Int) < (L.length : Int)) = true := by simp; omega
  have hex : (tx L).extract 0 2 = tx (L.take 2) := extract_take L 2
  rw [hi] at hex
  have hg : ∀ h : 2 < (tx L).size, (((((tx L)[2]'h).toNat : Nat)) : Int) = (((L.getD 2 0).toNat : Nat) : Int) := fun h => by rw [get_bt (tx L) 2 h, bt_tx]
  have hce : ((((L.getD 2 0).toNat : Nat) : Int) != 32) = true := by
    simp only [bne_iff_ne, ne_eq]
    intro h
    exact hc (UInt8.toNat_inj.1 (show (L.getD 2 0).toNat = 32 by omega))
  replace hc := Lib.hid hc
  clear hi
  unfold idT at hex
  generalize (((L.getD 2 0).toNat : Nat) : Int) = c at *
  go_enter Try.func4, Try.ntmps4
  go_wp2
  go_ret
  exact ⟨rfl, Below.refl _ _⟩
set_option maxRecDepth 100000 in
theorem walk_main (L : List UInt8) (hs : L.length ≤ 400) (hA : L.take 2 = idT → 2 < L.length → L.getD 2 0 = 32) (W : World) :
    Calls Try.prog 4 #[.string (tx L)] W fun e w' => e = .returned (.bool true) ∧ Below W.heap.size W w' := by
  have hd : decide ((2147483647 : Int) < (L.length : Int)) = false := by simp; omega
  have hd2 : decide ((400 : Int) < (L.length : Int)) = false := by simp; omega
  have hex : (tx L).extract 0 2 = tx (L.take 2) := extract_take L 2
  have hg : ∀ h : 2 < (tx L).size, (((((tx L)[2]'h).toNat : Nat)) : Int) = (((L.getD 2 0).toNat : Nat) : Int) := fun h => by rw [get_bt (tx L) 2 h, bt_tx]
  have hcase : (decide ((2 : Int) < (L.length : Int)) = false) ∨ (2 < L.length ∧ decide ((2 : Int) < (L.length : Int)) = true ∧ (L.take 2 == [105, 100]) = false) ∨ (2 < L.length ∧ decide ((2 : Int) < (L.length : Int)) = true ∧ (L.take 2 == [105, 100]) = true ∧ ((((L.getD 2 0).toNat : Nat) : Int) != 32) = false) := by
    by_cases h : 2 < L.length
    · right
      by_cases hi : L.take 2 = idT
      · right
        exact ⟨h, by simp; omega, beq_iff_eq.2 hi, by rw [hA hi h]; rfl⟩
      · left
        exact ⟨h, by simp; omega, beq_eq_false_iff_ne.2 hi⟩
    · left; simp; omega
  cases hsp : specIs L
  all_goals
    have hspec := fun w => (by first | exact spec_no L hs hsp w | exact spec_yes L hs hsp w)
    have himpl := fun w => (by first | exact impl_no L hs hA hsp w | exact impl_yes L hs hA hsp w)
    replace hspec := Lib.hid hspec
    replace himpl := Lib.hid himpl
    clear hA hsp
    generalize (((L.getD 2 0).toNat : Nat) : Int) = c at *
    generalize L.take 2 = x at *
    generalize L.drop (4 + (wordAt L 1).length) = y at *
    generalize wordAt L 1 = z at *
    rcases hcase with hd3 | ⟨h2, hd3, hx⟩ | ⟨h2, hd3, hx, hc⟩
    all_goals
      go_enter Try.func4, Try.ntmps4
      go_wp2_with (first
        | (go_at_call 10; refine (hspec.out _).mono ?_; rintro e w1 ⟨rfl, hb1⟩)
        | (go_at_call 11; refine (himpl.out _).mono ?_; rintro e w2 ⟨rfl, hb2⟩))
      go_ret
      exact ⟨rfl, hb1.trans (hb2.mono hb1.size)⟩
end Go.Proofs.Ytkbbncobgmepbaa.UciId

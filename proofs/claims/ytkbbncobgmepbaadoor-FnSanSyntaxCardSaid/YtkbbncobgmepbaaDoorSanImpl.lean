/- Standard algebraic notation: the thin package's answers. -/
import Derived.Test.YtkbbncobgmepbaaDoorSanDoor
namespace Go.Proofs.YtkbbncobgmepbaaDoor
open Go.ChangeShapes Go.WideShapes Go.ChangeAt Go.RowKit Go.PlainAid
set_option maxHeartbeats 1000000
set_option linter.unusedVariables false
set_option linter.unusedSimpArgs false
attribute [local go_sem] tx_list tx_size

/-- The parts, and whether there are any. -/
def OutB (L : List UInt8) (l : List (List UInt8)) (b : Bool) : Prop := (SanR L (some l) ∧ l.length = 8 ∧ b = true) ∨ (SanR L none ∧ l = [] ∧ b = false)
theorem OutB.uniq {L : List UInt8} {l l' : List (List UInt8)} {b b' : Bool} (h : OutB L l b) (h' : OutB L l' b') : l = l' ∧ b = b' := by
  rcases h with ⟨h1, _, rfl⟩ | ⟨h1, rfl, rfl⟩ <;> rcases h' with ⟨h2, _, rfl⟩ | ⟨h2, rfl, rfl⟩
  · exact ⟨Option.some.inj (h1.uniq h2), rfl⟩
  · cases h1.uniq h2
  · cases h1.uniq h2
  · exact ⟨rfl, rfl⟩
theorem implValidate_any (L : List UInt8) (hL : L.length ≤ 100) (w : World) (hE : TabE w) :
    Calls Tryd.prog 9 #[.string (tx L)] w fun e w' => (∃ l b, e = .returned (.bool b) ∧ OutB L l b) ∧ Below w.heap.size w w' := by
  have ha := Lib.hid (validate_any L hL w hE)
  go_enter Tryd.func9, Tryd.ntmps9
  go_wp2_with (fail)
  refine ha.out.mono ?_
  rintro e w2 ⟨⟨l, er, rfl, ⟨h1, h2, rfl⟩ | ⟨h1, rfl, a, rfl⟩⟩, hb2⟩
  · replace h1 := Lib.hid h1
    replace h2 := Lib.hid h2
    go_wp2_with (fail)
    go_ret
    exact ⟨⟨l, true, rfl, .inl ⟨h1.out, h2.out, rfl⟩⟩, hb2⟩
  · replace h1 := Lib.hid h1
    go_wp2_with (fail)
    go_ret
    exact ⟨⟨[], false, rfl, .inr ⟨h1.out, rfl, rfl⟩⟩, hb2⟩
theorem clo_SanParts (p0 p1 : Addr) (w : World) :
    CallsD Tryd.prog 23 #[.pointer (some p0), .pointer (some p1)] .returning w fun e u' w' => e = .returned (.tuple #[]) ∧ u' = .returning ∧ w' = w := by
  refine callsD_of_wpS Tryd.func23 rfl fun c₀ cs hu => ?_
  apply wpS_seq
  apply wpS_region
  simp [wpOpsS, go_sem, recoverD, hu, Tryd.ntmps23, Exit.thenS]
  refine wpS_cond (t := false) (by simp [Act.eval, Array.replicate]) ?_
  simp only [Bool.false_eq_true, if_false]
  refine wpS_of_wp (wp_skip ?_)
  cases c₀
  simp_all [bodyPostS, results, Tryd.results23]

theorem clo_SanClean (p0 p1 : Addr) (w : World) :
    CallsD Tryd.prog 25 #[.pointer (some p0), .pointer (some p1)] .returning w fun e u' w' => e = .returned (.tuple #[]) ∧ u' = .returning ∧ w' = w := by
  refine callsD_of_wpS Tryd.func25 rfl fun c₀ cs hu => ?_
  apply wpS_seq
  apply wpS_region
  simp [wpOpsS, go_sem, recoverD, hu, Tryd.ntmps25, Exit.thenS]
  refine wpS_cond (t := false) (by simp [Act.eval, Array.replicate]) ?_
  simp only [Bool.false_eq_true, if_false]
  refine wpS_of_wp (wp_skip ?_)
  cases c₀
  simp_all [bodyPostS, results, Tryd.results25]

def laidP (w : World) : World := (w.alloc (.cells (eight []) 22)).alloc (.cells #[.bool false] 4)
theorem laidP_facts (w : World) : (laidP w).heap.size = w.heap.size + 2 ∧ (laidP w).rowIs w.heap.size 22 8 (eightF []) ∧ (laidP w).rowIs (w.heap.size + 1) 4 1 (fun _ => .bool false) ∧ Below w.heap.size w (laidP w) := by
  have h1 := World.rowIs_alloc w (eight []) 22 (eightF []) (fun i hi => eight_get [] i hi)
  have h2 := World.rowIs_alloc (w.alloc (.cells (eight []) 22)) #[.bool false] 4 (fun _ => .bool false) (fun i hi => by obtain rfl : i = 0 := (by simp at hi; omega); rfl)
  rw [World.size_alloc] at h2
  exact ⟨by simp [laidP], h1.alloc _, h2, ((Below.refl _ _).alloc (Nat.le_refl _) _).alloc (by simp) _⟩
/-- What the results' region leaves as it is. -/
def ResP (w : World) (l : List (List UInt8)) (v : World) : Prop :=
  v.rowIs w.heap.size 22 8 (eightF l) ∧ (∃ z, v.rowIs (w.heap.size + 1) 4 1 (fun _ => .bool z)) ∧ Below w.heap.size w v
theorem ResP.below {w v v' : World} {l : List (List UInt8)} (h : ResP w l v) (hb : Below v.heap.size v v') : ResP w l v' := by
  obtain ⟨h1, ⟨z, h2⟩, h3⟩ := h
  exact ⟨rowIs_below h1 hb h1.lt, ⟨z, rowIs_below h2 hb h2.lt⟩, h3.trans (hb.mono h3.size)⟩
theorem ResP.cells {w v : World} {l : List (List UInt8)} (h : ResP w l v) : v.cell? ⟨w.heap.size, 0, none⟩ = some (.string (tx (l.getD 0 []))) ∧ v.cell? ⟨w.heap.size, 1, none⟩ = some (.string (tx (l.getD 1 []))) ∧ v.cell? ⟨w.heap.size, 2, none⟩ = some (.string (tx (l.getD 2 []))) ∧ v.cell? ⟨w.heap.size, 3, none⟩ = some (.string (tx (l.getD 3 []))) ∧ v.cell? ⟨w.heap.size, 4, none⟩ = some (.string (tx (l.getD 4 []))) ∧ v.cell? ⟨w.heap.size, 5, none⟩ = some (.string (tx (l.getD 5 []))) ∧ v.cell? ⟨w.heap.size, 6, none⟩ = some (.string (tx (l.getD 6 []))) ∧ v.cell? ⟨w.heap.size, 7, none⟩ = some (.string (tx (l.getD 7 []))) :=
  ⟨h.1.cell (i := 0) (by omega), h.1.cell (i := 1) (by omega), h.1.cell (i := 2) (by omega), h.1.cell (i := 3) (by omega), h.1.cell (i := 4) (by omega), h.1.cell (i := 5) (by omega), h.1.cell (i := 6) (by omega), h.1.cell (i := 7) (by omega)⟩
theorem ResP.setRow {w v : World} {l : List (List UInt8)} (h : ResP w l v) : ResP w l (v.setCells w.heap.size 0 (eight l).toList) := by
  obtain ⟨h1, ⟨z, h2⟩, h3⟩ := h
  exact ⟨eight_row h1, ⟨z, h2.of_block (setCells_other _ _ _ _ _ (by omega))⟩, below_setCells (Nat.le_refl _) _ _ _ h3⟩
theorem ResP.setB {w v : World} {l : List (List UInt8)} (h : ResP w l v) (b : Bool) : ResP w l (v.setCell ⟨w.heap.size + 1, 0, none⟩ (.bool b)) := by
  obtain ⟨h1, ⟨z, h2⟩, h3⟩ := h
  exact ⟨h1.setOther (by simp) _, ⟨b, (h2.set 0 (.bool b)).congr fun j hj => (by obtain rfl : j = 0 := (by omega); simp)⟩, h3.setCell (by simp) _⟩
set_option maxRecDepth 100000 in
theorem implParts_any (L : List UInt8) (hL : L.length ≤ 100) (w : World) (hE : TabE w) :
    Calls Tryd.prog 7 #[.string (tx L)] w fun e w' => (∃ l b, e = .returned (.tuple #[.agg (eight l), .bool b]) ∧ OutB L l b) ∧ Below w.heap.size w w' := by
  have hmf := mkf Tryd.prog
  obtain ⟨hs, hr1, hr2, hb⟩ := laidP_facts w
  have hd := Lib.hid (doorParts_any L hL (laidP w) (hE.below hb))
  clear hE
  go_enter_defers Tryd.func7, Tryd.ntmps7
  go_wp2_with (fail)
  refine hd.out.mono ?_
  rintro e w2 ⟨⟨l, er, rfl, hO⟩, hb2⟩
  have hS0 : ResP w l (w2.setCells w.heap.size 0 (eight l).toList) := by
    have q1 := rowIs_below hr1 hb2 (by omega)
    have q2 := rowIs_below hr2 hb2 (by omega)
    exact ⟨eight_row q1, ⟨false, q2.of_block (setCells_other _ _ _ _ _ (by omega))⟩, below_setCells (Nat.le_refl _) _ _ _ (hb.trans (hb2.mono (by omega)))⟩
  have hth := rowIs_there (rowIs_below hr1 hb2 (by omega))
  clear hr1 hr2 hb hb2 hd hs
  replace hth := Lib.hid hth
  rcases hO with ⟨h1, h2, rfl⟩ | ⟨h1, rfl, a, rfl⟩
  · replace h1 := Lib.hid h1
    replace h2 := Lib.hid h2
    skip
    go_wp2_with (refine wpList_store_mid rfl 22 _ _ rfl w.heap.size 0 (eight l) rfl rfl hth.out (by kernel_rfl) (by simp [eight, Value.oneCell']) ?_)
    generalize w2.setCells w.heap.size 0 (eight l).toList = w4 at *
    refine wp_region_noPanic ?_
    refine held_any (S := ResP w l) (by kernel_rfl) (hS0.below ⟨rfl, rfl, rfl, Nat.le_refl _, fun _ _ => rfl⟩) ?_
    intro wA hHeld
    clear hS0 hth
    refine wpAnyH_take (i := 0) (v := ?_) rfl (by kernel_rfl) (by kernel_rfl) (by kernel_rfl) (fun _ _ _ h => h) (Or.inl ⟨by rfl, ?_⟩) (by assumption) ?_
    rotate_left
    · (intro w hSw; obtain ⟨c0, c1, c2, c3, c4, c5, c6, c7⟩ := hSw.cells; go_simp; try with_reducible rfl)
    try simp only [List.getElem_toArray, List.getElem_cons_succ, List.getElem_cons_zero, Act.put, List.setIfInBounds_toArray, List.set_cons_zero, List.set_cons_succ]
    (refine wpAnyH_take (i := 1) (v := ?_) rfl (by kernel_rfl) (by kernel_rfl) (by kernel_rfl) (fun _ _ _ h => h) (Or.inl ⟨by rfl, ?_⟩) (by assumption) ?_; rotate_left; · (intro w hSw; go_simp; try with_reducible rfl)); try simp only [List.getElem_toArray, List.getElem_cons_succ, List.getElem_cons_zero, Act.put, List.setIfInBounds_toArray, List.set_cons_zero, List.set_cons_succ]
    (refine wpAnyH_take (i := 2) (v := ?_) rfl (by kernel_rfl) (by kernel_rfl) (by kernel_rfl) (fun _ _ _ h => h) (Or.inl ⟨by rfl, ?_⟩) (by assumption) ?_; rotate_left; · (intro w hSw; go_simp; try with_reducible rfl)); try simp only [List.getElem_toArray, List.getElem_cons_succ, List.getElem_cons_zero, Act.put, List.setIfInBounds_toArray, List.set_cons_zero, List.set_cons_succ]
    refine wpAnyH_ready (rs := [3]) (by kernel_rfl) (by simp) ?_
    refine AllReadyH.cons rfl (fun K hK => ?_) AllReadyH.nil
    rw [if_pos (by rfl)]
    refine wp_store_mid 22 _ _ rfl w.heap.size 0 (eight l) rfl rfl (rowIs_there hHeld.1) (by kernel_rfl) (by simp [eight, Value.oneCell']) ?_
    have hS2 := hHeld.setRow
    generalize wA.setCells w.heap.size 0 (eight l).toList = wB at *
    refine hK.out _ _ hS2 (fun hHeld2 => ?_)
    clear hK K hHeld
    try simp only [List.getElem_toArray, List.getElem_cons_succ, List.getElem_cons_zero, Act.put, List.setIfInBounds_toArray, List.set_cons_zero, List.set_cons_succ]
    refine wpAnyH_ready (rs := [4]) (by kernel_rfl) (by simp) ?_
    refine AllReadyH.cons rfl (fun K hK => ?_) AllReadyH.nil
    obtain ⟨zb, hzb⟩ := hS2.2.1
    have c3 := hzb.cell (i := 0) (by omega)
    have f3 := hzb.frozen 0
    go_simp
    have hS3 := hS2.setB true
    have d8 := (hzb.set 0 (.bool true)).cell (i := 0) (by omega)
    rw [if_pos rfl] at d8
    refine hK.out _ _ hS3 (fun hHeld3 => ?_)
    clear hK K
    refine wpAnyH_done (by kernel_rfl) (NoPanic.normal ?_) _
    obtain ⟨d0, d1, d2, d3, d4, d5, d6, d7⟩ := hS3.cells
    have hBl := Lib.hid hS3.2.2
    clear hHeld3 hHeld2 hS2 hS3 hzb c3 f3
    generalize wB.setCell ⟨w.heap.size + 1, 0, none⟩ (.bool true) = wE at *
    go_wp2_with (fail)
    refine leaves_cons (f := 23) (args := #[.pointer (some ⟨w.heap.size, 0, none⟩), .pointer (some ⟨w.heap.size + 1, 0, none⟩)]) (by simp) (by simp [go_sem]) ?_; refine (clo_SanParts _ _ _).mono ?_; rintro e u' w'' ⟨rfl, rfl, rfl⟩
    simp [Leaves, settle, results, Tryd.results7, asAddr, go_sem, d0, d1, d2, d3, d4, d5, d6, d7, d8]
    exact ⟨⟨l, rfl, .inl ⟨h1.out, h2.out, rfl⟩⟩, hBl.out⟩
  · replace h1 := Lib.hid h1
    generalize hle : ([] : List (List UInt8)) = l at *
    replace hle := Lib.hid hle
    go_wp2_with (refine wpList_store_mid rfl 22 _ _ rfl w.heap.size 0 (eight l) rfl rfl hth.out (by kernel_rfl) (by simp [eight, Value.oneCell']) ?_)
    generalize w2.setCells w.heap.size 0 (eight l).toList = w4 at *
    refine wp_region_noPanic ?_
    refine held_any (S := ResP w l) (by kernel_rfl) (hS0.below ⟨rfl, rfl, rfl, Nat.le_refl _, fun _ _ => rfl⟩) ?_
    intro wA hHeld
    clear hS0 hth
    refine wpAnyH_take (i := 0) (v := ?_) rfl (by kernel_rfl) (by kernel_rfl) (by kernel_rfl) (fun _ _ _ h => h) (Or.inl ⟨by rfl, ?_⟩) (by assumption) ?_
    rotate_left
    · (intro w hSw; obtain ⟨c0, c1, c2, c3, c4, c5, c6, c7⟩ := hSw.cells; go_simp; try with_reducible rfl)
    try simp only [List.getElem_toArray, List.getElem_cons_succ, List.getElem_cons_zero, Act.put, List.setIfInBounds_toArray, List.set_cons_zero, List.set_cons_succ]
    (refine wpAnyH_take (i := 1) (v := ?_) rfl (by kernel_rfl) (by kernel_rfl) (by kernel_rfl) (fun _ _ _ h => h) (Or.inl ⟨by rfl, ?_⟩) (by assumption) ?_; rotate_left; · (intro w hSw; go_simp; try with_reducible rfl)); try simp only [List.getElem_toArray, List.getElem_cons_succ, List.getElem_cons_zero, Act.put, List.setIfInBounds_toArray, List.set_cons_zero, List.set_cons_succ]
    (refine wpAnyH_take (i := 2) (v := ?_) rfl (by kernel_rfl) (by kernel_rfl) (by kernel_rfl) (fun _ _ _ h => h) (Or.inl ⟨by rfl, ?_⟩) (by assumption) ?_; rotate_left; · (intro w hSw; go_simp; try with_reducible rfl)); try simp only [List.getElem_toArray, List.getElem_cons_succ, List.getElem_cons_zero, Act.put, List.setIfInBounds_toArray, List.set_cons_zero, List.set_cons_succ]
    refine wpAnyH_ready (rs := [3]) (by kernel_rfl) (by simp) ?_
    refine AllReadyH.cons rfl (fun K hK => ?_) AllReadyH.nil
    rw [if_pos (by rfl)]
    refine wp_store_mid 22 _ _ rfl w.heap.size 0 (eight l) rfl rfl (rowIs_there hHeld.1) (by kernel_rfl) (by simp [eight, Value.oneCell']) ?_
    have hS2 := hHeld.setRow
    generalize wA.setCells w.heap.size 0 (eight l).toList = wB at *
    refine hK.out _ _ hS2 (fun hHeld2 => ?_)
    clear hK K hHeld
    try simp only [List.getElem_toArray, List.getElem_cons_succ, List.getElem_cons_zero, Act.put, List.setIfInBounds_toArray, List.set_cons_zero, List.set_cons_succ]
    refine wpAnyH_ready (rs := [4]) (by kernel_rfl) (by simp) ?_
    refine AllReadyH.cons rfl (fun K hK => ?_) AllReadyH.nil
    obtain ⟨zb, hzb⟩ := hS2.2.1
    have c3 := hzb.cell (i := 0) (by omega)
    have f3 := hzb.frozen 0
    go_simp
    have hS3 := hS2.setB false
    have d8 := (hzb.set 0 (.bool false)).cell (i := 0) (by omega)
    rw [if_pos rfl] at d8
    refine hK.out _ _ hS3 (fun hHeld3 => ?_)
    clear hK K
    refine wpAnyH_done (by kernel_rfl) (NoPanic.normal ?_) _
    obtain ⟨d0, d1, d2, d3, d4, d5, d6, d7⟩ := hS3.cells
    have hBl := Lib.hid hS3.2.2
    clear hHeld3 hHeld2 hS2 hS3 hzb c3 f3
    generalize wB.setCell ⟨w.heap.size + 1, 0, none⟩ (.bool false) = wE at *
    go_wp2_with (fail)
    refine leaves_cons (f := 23) (args := #[.pointer (some ⟨w.heap.size, 0, none⟩), .pointer (some ⟨w.heap.size + 1, 0, none⟩)]) (by simp) (by simp [go_sem]) ?_; refine (clo_SanParts _ _ _).mono ?_; rintro e u' w'' ⟨rfl, rfl, rfl⟩
    simp [Leaves, settle, results, Tryd.results7, asAddr, go_sem, d0, d1, d2, d3, d4, d5, d6, d7, d8]
    exact ⟨⟨l, rfl, .inr ⟨h1.out, hle.out.symm, rfl⟩⟩, hBl.out⟩
def laidC (w : World) : World := (w.alloc (.cells #[.string ⟨#[]⟩] 9)).alloc (.cells #[.bool false] 4)
theorem laidC_facts (w : World) : (laidC w).heap.size = w.heap.size + 2 ∧ (laidC w).rowIs w.heap.size 9 1 (fun _ => .string ⟨#[]⟩) ∧ (laidC w).rowIs (w.heap.size + 1) 4 1 (fun _ => .bool false) ∧ Below w.heap.size w (laidC w) := by
  have h1 := World.rowIs_alloc w #[.string ⟨#[]⟩] 9 (fun _ => .string ⟨#[]⟩) (fun i hi => by obtain rfl : i = 0 := (by simp at hi; omega); rfl)
  have h2 := World.rowIs_alloc (w.alloc (.cells #[.string ⟨#[]⟩] 9)) #[.bool false] 4 (fun _ => .bool false) (fun i hi => by obtain rfl : i = 0 := (by simp at hi; omega); rfl)
  rw [World.size_alloc] at h2
  exact ⟨by simp [laidC], h1.alloc _, h2, ((Below.refl _ _).alloc (Nat.le_refl _) _).alloc (by simp) _⟩
def ResC (w : World) (x : ByteArray) (v : World) : Prop :=
  v.rowIs w.heap.size 9 1 (fun _ => .string x) ∧ (∃ z, v.rowIs (w.heap.size + 1) 4 1 (fun _ => .bool z)) ∧ Below w.heap.size w v
theorem ResC.below {w v v' : World} {x : ByteArray} (h : ResC w x v) (hb : Below v.heap.size v v') : ResC w x v' := by
  obtain ⟨h1, ⟨z, h2⟩, h3⟩ := h
  exact ⟨rowIs_below h1 hb h1.lt, ⟨z, rowIs_below h2 hb h2.lt⟩, h3.trans (hb.mono h3.size)⟩
theorem ResC.set {w v : World} {x : ByteArray} (h : ResC w x v) : ResC w x (v.setCell ⟨w.heap.size, 0, none⟩ (.string x)) := by
  obtain ⟨h1, ⟨z, h2⟩, h3⟩ := h
  exact ⟨(h1.set 0 (.string x)).congr fun j hj => (by obtain rfl : j = 0 := (by omega); simp), ⟨z, h2.setOther (by simp) _⟩, h3.setCell (by simp) _⟩
theorem ResC.setB {w v : World} {x : ByteArray} (h : ResC w x v) (b : Bool) : ResC w x (v.setCell ⟨w.heap.size + 1, 0, none⟩ (.bool b)) := by
  obtain ⟨h1, ⟨z, h2⟩, h3⟩ := h
  exact ⟨h1.setOther (by simp) _, ⟨b, (h2.set 0 (.bool b)).congr fun j hj => (by obtain rfl : j = 0 := (by omega); simp)⟩, h3.setCell (by simp) _⟩
set_option maxRecDepth 100000 in
theorem implClean_any (L : List UInt8) (hL : L.length ≤ 100) (w : World) (hE : TabE w) :
    Calls Tryd.prog 8 #[.string (tx L)] w fun e w' => (∃ l b, e = .returned (.tuple #[.string (tx (cat8 l)), .bool b]) ∧ OutB L l b) ∧ Below w.heap.size w w' := by
  have hmf := mkf Tryd.prog
  obtain ⟨hs, hr1, hr2, hb⟩ := laidC_facts w
  have hd := Lib.hid (doorClean_any L hL (laidC w) (hE.below hb))
  clear hE
  go_enter_defers Tryd.func8, Tryd.ntmps8
  go_wp2_with (fail)
  refine hd.out.mono ?_
  rintro e w2 ⟨⟨l, er, rfl, hO⟩, hb2⟩
  have q1 := rowIs_below hr1 hb2 (by omega)
  have q2 := rowIs_below hr2 hb2 (by omega)
  have k1 := q1.cell (i := 0) (by omega)
  have f1 := q1.frozen 0
  have hS0 : ResC w (tx (cat8 l)) (w2.setCell ⟨w.heap.size, 0, none⟩ (.string (tx (cat8 l)))) :=
    ⟨(q1.set 0 _).congr fun j hj => (by obtain rfl : j = 0 := (by omega); simp), ⟨false, q2.setOther (by simp) _⟩, (hb.trans (hb2.mono (by omega))).setCell (by simp) _⟩
  clear hr1 hr2 hb hb2 hd hs q1 q2
  replace hS0 := Lib.hid hS0
  rcases hO with ⟨h1, h2, rfl⟩ | ⟨h1, rfl, a, rfl⟩
  · replace h1 := Lib.hid h1
    replace h2 := Lib.hid h2
    skip
    generalize hx : cat8 l = x at *
    replace hx := Lib.hid hx
    go_wp2_with (fail)
    replace hS0 := hS0.out
    generalize w2.setCell ⟨w.heap.size, 0, none⟩ (.string (tx x)) = w4 at *
    refine wp_region_noPanic ?_
    refine held_any (S := ResC w (tx x)) (by kernel_rfl) (hS0.below ⟨rfl, rfl, rfl, Nat.le_refl _, fun _ _ => rfl⟩) ?_
    intro wA hHeld
    clear hS0 k1 f1
    refine wpAnyH_take (i := 0) (v := ?_) rfl (by kernel_rfl) (by kernel_rfl) (by kernel_rfl) (fun _ _ _ h => h) (Or.inl ⟨by rfl, ?_⟩) (by assumption) ?_
    rotate_left
    · (intro w hSw; have c0 := hSw.1.cell (i := 0) (by omega); go_simp; try with_reducible rfl)
    try simp only [List.getElem_toArray, List.getElem_cons_succ, List.getElem_cons_zero, Act.put, List.setIfInBounds_toArray, List.set_cons_zero, List.set_cons_succ]
    (refine wpAnyH_take (i := 1) (v := ?_) rfl (by kernel_rfl) (by kernel_rfl) (by kernel_rfl) (fun _ _ _ h => h) (Or.inl ⟨by rfl, ?_⟩) (by assumption) ?_; rotate_left; · (intro w hSw; go_simp; try with_reducible rfl)); try simp only [List.getElem_toArray, List.getElem_cons_succ, List.getElem_cons_zero, Act.put, List.setIfInBounds_toArray, List.set_cons_zero, List.set_cons_succ]
    (refine wpAnyH_take (i := 2) (v := ?_) rfl (by kernel_rfl) (by kernel_rfl) (by kernel_rfl) (fun _ _ _ h => h) (Or.inl ⟨by rfl, ?_⟩) (by assumption) ?_; rotate_left; · (intro w hSw; go_simp; try with_reducible rfl)); try simp only [List.getElem_toArray, List.getElem_cons_succ, List.getElem_cons_zero, Act.put, List.setIfInBounds_toArray, List.set_cons_zero, List.set_cons_succ]
    refine wpAnyH_ready (rs := [3]) (by kernel_rfl) (by simp) ?_
    refine AllReadyH.cons rfl (fun K hK => ?_) AllReadyH.nil
    have c3 := hHeld.1.cell (i := 0) (by omega)
    have f3 := hHeld.1.frozen 0
    go_simp
    have hS2 := hHeld.set
    refine hK.out _ _ hS2 (fun hHeld2 => ?_)
    clear hK K hHeld c3 f3
    generalize wA.setCell ⟨w.heap.size, 0, none⟩ (.string (tx x)) = wB at *
    refine wpAnyH_ready (rs := [4]) (by kernel_rfl) (by simp) ?_
    refine AllReadyH.cons rfl (fun K hK => ?_) AllReadyH.nil
    obtain ⟨zb, hzb⟩ := hS2.2.1
    have c3 := hzb.cell (i := 0) (by omega)
    have f3 := hzb.frozen 0
    go_simp
    have hS3 := hS2.setB true
    have d8 := (hzb.set 0 (.bool true)).cell (i := 0) (by omega)
    rw [if_pos rfl] at d8
    refine hK.out _ _ hS3 (fun hHeld3 => ?_)
    clear hK K
    refine wpAnyH_done (by kernel_rfl) (NoPanic.normal ?_) _
    have d0 := hS3.1.cell (i := 0) (by omega)
    have hBl := Lib.hid hS3.2.2
    clear hHeld3 hHeld2 hS2 hS3 hzb c3 f3
    generalize wB.setCell ⟨w.heap.size + 1, 0, none⟩ (.bool true) = wE at *
    go_wp2_with (fail)
    refine leaves_cons (f := 25) (args := #[.pointer (some ⟨w.heap.size, 0, none⟩), .pointer (some ⟨w.heap.size + 1, 0, none⟩)]) (by simp) (by simp [go_sem]) ?_; refine (clo_SanClean _ _ _).mono ?_; rintro e u' w'' ⟨rfl, rfl, rfl⟩
    simp [Leaves, settle, results, Tryd.results8, asAddr, go_sem, d0, d8]
    exact ⟨⟨l, by rw [hx.out], .inl ⟨h1.out, h2.out, rfl⟩⟩, hBl.out⟩
  · replace h1 := Lib.hid h1
    generalize hle : ([] : List (List UInt8)) = l at *
    replace hle := Lib.hid hle
    generalize hx : cat8 l = x at *
    replace hx := Lib.hid hx
    go_wp2_with (fail)
    replace hS0 := hS0.out
    generalize w2.setCell ⟨w.heap.size, 0, none⟩ (.string (tx x)) = w4 at *
    refine wp_region_noPanic ?_
    refine held_any (S := ResC w (tx x)) (by kernel_rfl) (hS0.below ⟨rfl, rfl, rfl, Nat.le_refl _, fun _ _ => rfl⟩) ?_
    intro wA hHeld
    clear hS0 k1 f1
    refine wpAnyH_take (i := 0) (v := ?_) rfl (by kernel_rfl) (by kernel_rfl) (by kernel_rfl) (fun _ _ _ h => h) (Or.inl ⟨by rfl, ?_⟩) (by assumption) ?_
    rotate_left
    · (intro w hSw; have c0 := hSw.1.cell (i := 0) (by omega); go_simp; try with_reducible rfl)
    try simp only [List.getElem_toArray, List.getElem_cons_succ, List.getElem_cons_zero, Act.put, List.setIfInBounds_toArray, List.set_cons_zero, List.set_cons_succ]
    (refine wpAnyH_take (i := 1) (v := ?_) rfl (by kernel_rfl) (by kernel_rfl) (by kernel_rfl) (fun _ _ _ h => h) (Or.inl ⟨by rfl, ?_⟩) (by assumption) ?_; rotate_left; · (intro w hSw; go_simp; try with_reducible rfl)); try simp only [List.getElem_toArray, List.getElem_cons_succ, List.getElem_cons_zero, Act.put, List.setIfInBounds_toArray, List.set_cons_zero, List.set_cons_succ]
    (refine wpAnyH_take (i := 2) (v := ?_) rfl (by kernel_rfl) (by kernel_rfl) (by kernel_rfl) (fun _ _ _ h => h) (Or.inl ⟨by rfl, ?_⟩) (by assumption) ?_; rotate_left; · (intro w hSw; go_simp; try with_reducible rfl)); try simp only [List.getElem_toArray, List.getElem_cons_succ, List.getElem_cons_zero, Act.put, List.setIfInBounds_toArray, List.set_cons_zero, List.set_cons_succ]
    refine wpAnyH_ready (rs := [3]) (by kernel_rfl) (by simp) ?_
    refine AllReadyH.cons rfl (fun K hK => ?_) AllReadyH.nil
    have c3 := hHeld.1.cell (i := 0) (by omega)
    have f3 := hHeld.1.frozen 0
    go_simp
    have hS2 := hHeld.set
    refine hK.out _ _ hS2 (fun hHeld2 => ?_)
    clear hK K hHeld c3 f3
    generalize wA.setCell ⟨w.heap.size, 0, none⟩ (.string (tx x)) = wB at *
    refine wpAnyH_ready (rs := [4]) (by kernel_rfl) (by simp) ?_
    refine AllReadyH.cons rfl (fun K hK => ?_) AllReadyH.nil
    obtain ⟨zb, hzb⟩ := hS2.2.1
    have c3 := hzb.cell (i := 0) (by omega)
    have f3 := hzb.frozen 0
    go_simp
    have hS3 := hS2.setB false
    have d8 := (hzb.set 0 (.bool false)).cell (i := 0) (by omega)
    rw [if_pos rfl] at d8
    refine hK.out _ _ hS3 (fun hHeld3 => ?_)
    clear hK K
    refine wpAnyH_done (by kernel_rfl) (NoPanic.normal ?_) _
    have d0 := hS3.1.cell (i := 0) (by omega)
    have hBl := Lib.hid hS3.2.2
    clear hHeld3 hHeld2 hS2 hS3 hzb c3 f3
    generalize wB.setCell ⟨w.heap.size + 1, 0, none⟩ (.bool false) = wE at *
    go_wp2_with (fail)
    refine leaves_cons (f := 25) (args := #[.pointer (some ⟨w.heap.size, 0, none⟩), .pointer (some ⟨w.heap.size + 1, 0, none⟩)]) (by simp) (by simp [go_sem]) ?_; refine (clo_SanClean _ _ _).mono ?_; rintro e u' w'' ⟨rfl, rfl, rfl⟩
    simp [Leaves, settle, results, Tryd.results8, asAddr, go_sem, d0, d8]
    exact ⟨⟨l, by rw [hx.out], .inr ⟨h1.out, hle.out.symm, rfl⟩⟩, hBl.out⟩
end Go.Proofs.YtkbbncobgmepbaaDoor

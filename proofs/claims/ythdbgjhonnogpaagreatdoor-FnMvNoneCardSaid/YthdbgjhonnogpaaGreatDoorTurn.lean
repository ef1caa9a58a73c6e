/- The turn is changed: impl.Turned, and the law's walk. -/
import Derived.Test.YthdbgjhonnogpaaGreatDoorPlainA
import Derived.Test.YthdbgjhonnogpaaGreatDoorCanB
namespace Go.Proofs.YthdbgjhonnogpaaGreatDoor
open Go.ChangeShapes Go.WideShapes Go.ChangeAt Go.RowKit Plain
set_option maxHeartbeats 1000000
set_option linter.unusedVariables false
set_option linter.unusedSimpArgs false

theorem orTo_of (X : Int) (h0 : 0 ≤ X) (h1 : X ≤ 15) : orTo (fun k => decide (leC k ∈ casTL X)) 4 = X := by
  have e : orTo (fun k => decide (leC k ∈ casTL X)) 4 = orTo (bitG X) 4 := by
    simp only [orTo, casTL_mem X h0 h1 0 (by omega), casTL_mem X h0 h1 1 (by omega), casTL_mem X h0 h1 2 (by omega), casTL_mem X h0 h1 3 (by omega)]
  rw [e]
  (have : X = 0 ∨ X = 1 ∨ X = 2 ∨ X = 3 ∨ X = 4 ∨ X = 5 ∨ X = 6 ∨ X = 7 ∨ X = 8 ∨ X = 9 ∨ X = 10 ∨ X = 11 ∨ X = 12 ∨ X = 13 ∨ X = 14 ∨ X = 15 := (by omega))
  rcases this with rfl | rfl | rfl | rfl | rfl | rfl | rfl | rfl | rfl | rfl | rfl | rfl | rfl | rfl | rfl | rfl <;> decide +kernel
theorem changeTurn_any (gp : Nat) (t : Int) (ht : t = 1 ∨ t = 2) (w : World) (h : w.cell? ⟨gp, 5, none⟩ = some (.int .i8 t)) (hf : w.frozen? ⟨gp, 5, none⟩ = false) :
    Calls Tryz.prog 14 #[.pointer (some ⟨gp, 0, none⟩)] w fun e w' => e = .returned (.pointer (some ⟨gp, 0, none⟩)) ∧ w' = w.setCell ⟨gp, 5, none⟩ (.int .i8 (3 - t)) := by
  have ho := Lib.hid (fun w => other_any t ht w)
  go_enter Tryz.func14, Tryz.ntmps14
  go_wp2_with (go_at_call 37; refine (ho.out _).mono ?_; rintro e w' ⟨rfl, rfl⟩)
  go_ret
  exact ⟨rfl, rfl⟩
theorem loadPos {w : World} {b : Nat} {f : Nat → Int} (h : w.rowIs b 24 69 (fun i => .int .i64 (f i))) :
    (loadVar 24 ⟨b, 0, none⟩).run Tryz.prog w = .ok (intRow 69 f) w :=
  run_loadVar_row w b 24 24 _ (0, 0) _ (rowIs_block h) Tryz.underlying24 rfl (by rw [infoPos', rowArr_size])
noncomputable def laidT (w : World) (g : Nat → Int) : World := ((w.alloc (.cells (rowArr 69 fun i => .int .i64 (g i)) 24)).alloc (.cells Tryz.zeroCells24 24)).alloc (.cells #[.bool false] 4)
theorem laidT_facts (w : World) (g : Nat → Int) : (laidT w g).heap.size = w.heap.size + 3 ∧ (laidT w g).rowIs w.heap.size 24 69 (fun i => .int .i64 (g i)) ∧
    (laidT w g).rowIs (w.heap.size + 1) 24 69 (fun _ => .int .i64 0) ∧ (laidT w g).rowIs (w.heap.size + 1 + 1) 4 1 (fun _ => .bool false) ∧ Below w.heap.size w (laidT w g) := by
  have h1 := rowIs_new w 24 69 (fun i => .int .i64 (g i))
  have h2 : ((w.alloc (.cells (rowArr 69 fun i => .int .i64 (g i)) 24)).alloc (.cells Tryz.zeroCells24 24)).rowIs (w.heap.size + 1) 24 69 (fun _ => .int .i64 0) := by
    have := rowIs_new (w.alloc (.cells (rowArr 69 fun i => .int .i64 (g i)) 24)) 24 69 (fun _ => .int .i64 0)
    rw [World.size_alloc] at this
    rw [zeroPos']; exact this
  refine ⟨by simp [laidT], (h1.alloc _).alloc _, h2.alloc _, ?_, (((Below.refl _ _).alloc (Nat.le_refl _) _).alloc (by simp) _).alloc (by simp; omega) _⟩
  have := World.rowIs_alloc ((w.alloc (.cells (rowArr 69 fun i => .int .i64 (g i)) 24)).alloc (.cells Tryz.zeroCells24 24)) #[.bool false] 4 (fun _ => .bool false) (fun i hi => by obtain rfl : i = 0 := (by simp at hi; omega); rfl)
  simpa [laidT] using this
theorem turned_row (g : Nat → Int) (hV : VG g) (c : Nat) (hc1 : c ≤ 1) (hgc : g 64 = (c : Int)) : (intRow 69 (plF g (3 - ((c : Int) + 1) - 1) (orTo (fun k => decide (leC k ∈ casTL (g 65))) 4) (g 66) (g 67) (g 68)) : Value) = intRow 69 (gput g 64 (1 - (c : Int))) := by
  rw [orTo_of (g 65) hV.castle.1 hV.castle.2]
  unfold intRow
  rw [rowArr_congr fun i hi => ?_]
  unfold plF gput
  by_cases a : i < 64
  · rw [if_pos a, if_neg (by omega)]
  · (have : i = 64 ∨ i = 65 ∨ i = 66 ∨ i = 67 ∨ i = 68 := (by omega))
    rcases this with rfl | rfl | rfl | rfl | rfl
    · rw [if_neg a, if_pos rfl, if_pos rfl]; congr 1; omega
    · rfl
    · rfl
    · rfl
    · rfl
theorem clo_Turned (p0 p1 : Addr) (w : World) :
    CallsD Tryz.prog 11 #[.pointer (some p0), .pointer (some p1)] .returning w fun e u' w' => e = .returned (.tuple #[]) ∧ u' = .returning ∧ w' = w := by
  refine callsD_of_wpS Tryz.func11 rfl fun c₀ cs hu => ?_
  apply wpS_seq
  apply wpS_region
  simp [wpOpsS, go_sem, recoverD, hu, Tryz.ntmps11, Exit.thenS]
  refine wpS_cond (t := false) (by simp [Act.eval, Array.replicate]) ?_
  simp only [Bool.false_eq_true, if_false]
  refine wpS_of_wp (wp_skip ?_)
  cases c₀
  simp_all [bodyPostS, results, Tryz.results11]

set_option maxRecDepth 100000 in
theorem implTurned_any (g : Nat → Int) (hV : VG g) (c : Nat) (hc1 : c ≤ 1) (hgc : g 64 = (c : Int)) (w : World) (hT : Tabs w) (hP : TabsP w) (hK : KTabs w) :
    Calls Tryz.prog 6 #[intRow 69 g] w fun e w' => e = .returned (.tuple #[intRow 69 (gput g 64 (1 - (c : Int))), .bool true]) ∧ Below w.heap.size w w' := by
  have hmf := mkf Tryz.prog
  obtain ⟨hs, hr, hr1, hc, hb⟩ := laidT_facts w g
  have hpos := Lib.hid (position_any g hV c hc1 hgc (laidT w g) (hT.below hb) (hP.below hb) (hK.below hb))
  have hPw := hP.below hb
  have hpl := fun (gp gb : Nat) (w1 : World) (hb1 : Below (laidT w g).heap.size (laidT w g) w1) (hrb : w1.rowIs gb tBoard 17 (calcRow (bbsOf g) 64)) (hrp : w1.rowIs gp tPos 8 (posF gb (casT (g 65)) (g 67) (g 68) (3 - ((c : Int) + 1)) (g 66) (inCk (bbsOf g) (wkOf (bbsOf g) 64) (bkOf (bbsOf g) 64) ((c : Int) + 1)))) (hP1 : TabsP w1) =>
    plain_any gp gb g hV.board _ (casTL (g 65)) (by have := casTL_len (g 65); omega) (g 67) (g 68) (3 - ((c : Int) + 1)) (g 66) _ w1 hrb (fun j hj => calcRow_low hj) (by rw [← casT_tx]; exact hrp) hP1 (by omega) hV.ep
  have hrow := turned_row g hV c hc1 hgc
  simp only [hrow] at hpl
  replace hpl := Lib.hid hpl
  unfold intRow at hpos
  unfold LaidP at hpos
  have hrow0 := Lib.hid (rowIs_block hr)
  have hbW := Lib.hid hb
  clear hb hT hK hP hV hrow hgc
  generalize hCK : inCk (bbsOf g) (wkOf (bbsOf g) 64) (bkOf (bbsOf g) 64) ((c : Int) + 1) = CK at *
  clear hCK
  unfold intRow
  go_enter_defers Tryz.func6, Tryz.ntmps6
  go_wp2_with (first
    | (go_at_call 14; fail)
    | (go_at_call 13; refine hpos.out.mono ?_; rintro e w1 ⟨gp, gb, rfl, hgp, hgb, hrb, hrp, hb1⟩)
    | (refine wpList_load_row rfl 24 _ rfl w.heap.size rfl _ _ (0, 0) _ hrow0.out Tryz.underlying24 rfl (by rw [infoPos', rowArr_size]) ?_))
  have hne : gb ≠ gp := fun e => by
    subst e
    have h1 := rowIs_block hrb
    have h2 := rowIs_block hrp
    rw [h1] at h2
    injection h2 with h2
    injection h2 with h2 h3
    revert h3; decide
  have hc5 : w1.cell? ⟨gp, 5, none⟩ = some (.int .i8 ((c : Int) + 1)) := hrp.cell (i := 5) (by omega)
  refine (changeTurn_any gp ((c : Int) + 1) (by omega) w1 hc5 (hrp.frozen 5)).mono ?_
  rintro e w2 ⟨rfl, hw2⟩
  have hrp2 : w2.rowIs gp tPos 8 (posF gb (casT (g 65)) (g 67) (g 68) (3 - ((c : Int) + 1)) (g 66) CK) := by
    rw [hw2]
    exact (hrp.set 5 _).congr fun i hi => by
      (have : i = 0 ∨ i = 1 ∨ i = 2 ∨ i = 3 ∨ i = 4 ∨ i = 5 ∨ i = 6 ∨ i = 7 := (by omega)); rcases this with rfl | rfl | rfl | rfl | rfl | rfl | rfl | rfl <;> rfl
  have hrb2 : w2.rowIs gb tBoard 17 (calcRow (bbsOf g) 64) := by
    rw [hw2]
    exact hrb.setOther (a := ⟨gp, 5, none⟩) (fun e => hne e) _
  have hb12 : Below (laidT w g).heap.size (laidT w g) w2 := by rw [hw2]; exact hb1.setCell (p := ⟨gp, 5, none⟩) hgp _
  have hP2 := hPw.below hb12
  clear hw2 hne hc5 hrb hrp
  go_wp2_with (first
    | (refine wpList_store_row rfl 24 _ _ rfl (w.heap.size + 1) _ rfl rfl _ _ hR3 (by rw [infoPos', rowArr_size]) (by rw [rowArr_size, rowArr_size]) (intRow_one _ _) ?_)
    | (go_at_call 12; refine (hpl.out gp gb w2 hb12 hrb2 hrp2 hP2).mono ?_; rintro e w3 ⟨rfl, hb3⟩; have hbA := hb12.trans (hb3.mono hb12.size); have hR3 := rowIs_block (rowIs_below hr1 hbA (by omega)); have hR3' := rowIs_below hr1 hbA (by omega); have hc3 := rowIs_below hc hbA (by omega); have hq := (fun cs => (rowIs_setRow_other (b' := w.heap.size + 1) hc3 (by omega) cs).cell (i := 0) (by omega)); have hq2 := (fun cs => (rowIs_setRow_other (b' := w.heap.size + 1) hc3 (by omega) cs).frozen 0); unfold intRow))
  have hfin : ∀ R : Nat → Int, ((w3.setRow (w.heap.size + 1) (rowArr 69 fun i => .int .i64 (R i))).setCell ⟨w.heap.size + 1 + 1, 0, none⟩ (.bool true)).rowIs (w.heap.size + 1) 24 69 (fun i => .int .i64 (R i)) := fun R =>
    (rowIs_setRow hR3' _).setOther (a := ⟨w.heap.size + 1 + 1, 0, none⟩) (by simp) _
  have hcell : ∀ cs, ((w3.setRow (w.heap.size + 1) cs).setCell ⟨w.heap.size + 1 + 1, 0, none⟩ (.bool true)).cell? ⟨w.heap.size + 1 + 1, 0, none⟩ = some (.bool true) := fun cs => (rowIs_setRow_other (b' := w.heap.size + 1) hc3 (by omega) cs).set 0 (.bool true) |>.cell (i := 0) (by omega)
  refine leaves_cons (f := 11) (args := #[.pointer (some ⟨w.heap.size + 1, 0, none⟩), .pointer (some ⟨w.heap.size + 2, 0, none⟩)]) (by simp) (by simp [go_sem]) ?_; refine (clo_Turned _ _ _).mono ?_; rintro e u' w'' ⟨rfl, rfl, rfl⟩
  have hl := loadPos (hfin (gput g 64 (1 - (c : Int))))
  have hl2 : ∀ cs, (loadVar 4 ⟨w.heap.size + 1 + 1, 0, none⟩).run Tryz.prog ((w3.setRow (w.heap.size + 1) cs).setCell ⟨w.heap.size + 1 + 1, 0, none⟩ (.bool true)) = .ok (.bool true) ((w3.setRow (w.heap.size + 1) cs).setCell ⟨w.heap.size + 1 + 1, 0, none⟩ (.bool true)) := fun cs => by simp [go_sem, hcell]
  simp [Leaves, settle, results, Tryz.results6, asAddr, hl, hl2]
  refine ⟨?_, ?_⟩
  · rfl
  · exact (below_setRow (hbW.out.trans (hbA.mono (by omega))) (by omega) _).setCell (by simp; omega) _
end Go.Proofs.YthdbgjhonnogpaaGreatDoor

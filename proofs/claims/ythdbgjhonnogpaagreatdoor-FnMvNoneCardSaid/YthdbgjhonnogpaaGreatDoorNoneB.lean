/- No move: impl.PlayNone. -/
import Derived.Test.YthdbgjhonnogpaaGreatDoorNoneA
namespace Go.Proofs.YthdbgjhonnogpaaGreatDoor
open Go.ChangeShapes Go.WideShapes Go.ChangeAt Go.RowKit Plain
set_option maxHeartbeats 1000000
set_option linter.unusedVariables false
set_option linter.unusedSimpArgs false

/-- The position behind no move, as the law has it. -/
def noneG (g : Nat → Int) (c : Nat) : Nat → Int := gput (gput (gput (gput g 68 (g 68 + (c : Int))) 64 (1 - (c : Int))) 66 (-1)) 67 (g 67 + 1)
theorem none_row (g : Nat → Int) (hV : VG g) (c : Nat) (hc1 : c ≤ 1) (hgc : g 64 = (c : Int)) : (intRow 69 (plF g (3 - ((c : Int) + 1) - 1) (orTo (fun k => decide (leC k ∈ casTL (g 65))) 4) (-1) (g 67 + 1) (g 68 + ((c : Int) + 1 - 1))) : Value) = intRow 69 (noneG g c) := by
  rw [orTo_of (g 65) hV.castle.1 hV.castle.2]
  unfold intRow
  rw [rowArr_congr fun i hi => ?_]
  unfold plF noneG gput
  by_cases a : i < 64
  · rw [if_pos a, if_neg (by omega), if_neg (by omega), if_neg (by omega), if_neg (by omega)]
  · (have : i = 64 ∨ i = 65 ∨ i = 66 ∨ i = 67 ∨ i = 68 := (by omega))
    rcases this with rfl | rfl | rfl | rfl | rfl
    · simp; omega
    · rfl
    · rfl
    · rfl
    · simp
theorem clo_PlayNone (p0 p1 : Addr) (w : World) :
    CallsD Tryz.prog 16 #[.pointer (some p0), .pointer (some p1)] .returning w fun e u' w' => e = .returned (.tuple #[]) ∧ u' = .returning ∧ w' = w := by
  refine callsD_of_wpS Tryz.func16 rfl fun c₀ cs hu => ?_
  apply wpS_seq
  apply wpS_region
  simp [wpOpsS, go_sem, recoverD, hu, Tryz.ntmps16, Exit.thenS]
  refine wpS_cond (t := false) (by simp [Act.eval, Array.replicate]) ?_
  simp only [Bool.false_eq_true, if_false]
  refine wpS_of_wp (wp_skip ?_)
  cases c₀
  simp_all [bodyPostS, results, Tryz.results16]

set_option maxRecDepth 100000 in
theorem implNone_any (g : Nat → Int) (hV : VG g) (hh : g 67 ≤ 10000) (hfl : g 68 ≤ 10000) (c : Nat) (hc1 : c ≤ 1) (hgc : g 64 = (c : Int)) (w : World) (hT : Tabs w) (hP : TabsP w) (hK : KTabs w) :
    Calls Tryz.prog 8 #[intRow 69 g] w fun e w' => e = .returned (.tuple #[intRow 69 (noneG g c), .bool true]) ∧ Below w.heap.size w w' := by
  have hmf := mkf Tryz.prog
  obtain ⟨hs, hr, hr1, hc, hb⟩ := laidT_facts w g
  have hpos := Lib.hid (position_any g hV c hc1 hgc (laidT w g) (hT.below hb) (hP.below hb) (hK.below hb))
  have hPw := hP.below hb
  have hhh : 0 ≤ g 67 ∧ g 67 ≤ 100000 := by have := hV.half; omega
  have hff : 0 ≤ g 68 ∧ g 68 ≤ 100000 := by have := hV.full; omega
  have hpl := fun (gp gb : Nat) (w1 : World) (hb1 : Below (laidT w g).heap.size (laidT w g) w1) (hrb : w1.rowIs gb tBoard 17 (calcRow (bbsOf g) 64)) (hrp : w1.rowIs gp tPos 8 (posF gb (casT (g 65)) (g 67 + 1) (g 68 + ((c : Int) + 1 - 1)) (3 - ((c : Int) + 1)) (-1) false)) (hP1 : TabsP w1) =>
    plain_any gp gb g hV.board _ (casTL (g 65)) (by have := casTL_len (g 65); omega) (g 67 + 1) (g 68 + ((c : Int) + 1 - 1)) (3 - ((c : Int) + 1)) (-1) _ w1 hrb (fun j hj => calcRow_low hj) (by rw [← casT_tx]; exact hrp) hP1 (by omega) (by omega)
  have hrow := none_row g hV c hc1 hgc
  simp only [hrow] at hpl
  replace hpl := Lib.hid hpl
  unfold intRow at hpos
  unfold LaidP at hpos
  have hrow0 := Lib.hid (rowIs_block hr)
  have hbW := Lib.hid hb
  clear hb hT hK hP hV hrow hgc
  generalize hCK : inCk (bbsOf g) (wkOf (bbsOf g) 64) (bkOf (bbsOf g) 64) ((c : Int) + 1) = CK at *
  clear hCK
  unfold intRow
  go_enter_defers Tryz.func8, Tryz.ntmps8
  go_wp2_with (first
    | (go_at_call 17; fail)
    | (go_at_call 13; refine hpos.out.mono ?_; rintro e w1 ⟨gp, gb, rfl, hgp, hgb, hrb, hrp, hb1⟩)
    | (refine wpList_load_row rfl 24 _ rfl w.heap.size rfl _ _ (0, 0) _ hrow0.out Tryz.underlying24 rfl (by rw [infoPos', rowArr_size]) ?_))
  refine (updateNil_any gp gb (fullOf (bbsOf g)) (wkOf (bbsOf g) 64) (bkOf (bbsOf g) 64) (casT (g 65)) (g 67) (g 68) ((c : Int) + 1) (g 66) CK (by omega) hhh hff w1 hrb hrp).mono ?_
  rintro e w2 ⟨gp2, gb2, rfl, hrb2, hrp2, hb2⟩
  have hb12 : Below (laidT w g).heap.size (laidT w g) w2 := hb1.trans (hb2.mono hb1.size)
  have hP2 := hPw.below hb12
  clear hrb hrp
  go_wp2_with (first
    | (refine wpList_store_row rfl 24 _ _ rfl (w.heap.size + 1) _ rfl rfl _ _ hR3 (by rw [infoPos', rowArr_size]) (by rw [rowArr_size, rowArr_size]) (intRow_one _ _) ?_)
    | (go_at_call 12; refine (hpl.out gp2 gb2 w2 hb12 hrb2 hrp2 hP2).mono ?_; rintro e w3 ⟨rfl, hb3⟩; have hbA := hb12.trans (hb3.mono hb12.size); have hR3 := rowIs_block (rowIs_below hr1 hbA (by omega)); have hR3' := rowIs_below hr1 hbA (by omega); have hc3 := rowIs_below hc hbA (by omega); have hq := (fun cs => (rowIs_setRow_other (b' := w.heap.size + 1) hc3 (by omega) cs).cell (i := 0) (by omega)); have hq2 := (fun cs => (rowIs_setRow_other (b' := w.heap.size + 1) hc3 (by omega) cs).frozen 0); unfold intRow))
  have hfin : ∀ R : Nat → Int, ((w3.setRow (w.heap.size + 1) (rowArr 69 fun i => .int .i64 (R i))).setCell ⟨w.heap.size + 1 + 1, 0, none⟩ (.bool true)).rowIs (w.heap.size + 1) 24 69 (fun i => .int .i64 (R i)) := fun R =>
    (rowIs_setRow hR3' _).setOther (a := ⟨w.heap.size + 1 + 1, 0, none⟩) (by simp) _
  have hcell : ∀ cs, ((w3.setRow (w.heap.size + 1) cs).setCell ⟨w.heap.size + 1 + 1, 0, none⟩ (.bool true)).cell? ⟨w.heap.size + 1 + 1, 0, none⟩ = some (.bool true) := fun cs => (rowIs_setRow_other (b' := w.heap.size + 1) hc3 (by omega) cs).set 0 (.bool true) |>.cell (i := 0) (by omega)
  refine leaves_cons (f := 16) (args := #[.pointer (some ⟨w.heap.size + 1, 0, none⟩), .pointer (some ⟨w.heap.size + 2, 0, none⟩)]) (by simp) (by simp [go_sem]) ?_; refine (clo_PlayNone _ _ _).mono ?_; rintro e u' w'' ⟨rfl, rfl, rfl⟩
  have hl := loadPos (hfin (noneG g c))
  have hl2 : ∀ cs, (loadVar 4 ⟨w.heap.size + 1 + 1, 0, none⟩).run Tryz.prog ((w3.setRow (w.heap.size + 1) cs).setCell ⟨w.heap.size + 1 + 1, 0, none⟩ (.bool true)) = .ok (.bool true) ((w3.setRow (w.heap.size + 1) cs).setCell ⟨w.heap.size + 1 + 1, 0, none⟩ (.bool true)) := fun cs => by simp [go_sem, hcell]
  simp [Leaves, settle, results, Tryz.results8, asAddr, hl, hl2]
  refine ⟨?_, ?_⟩
  · rfl
  · exact (below_setRow (hbW.out.trans (hbA.mono (by omega))) (by omega) _).setCell (by simp; omega) _
end Go.Proofs.YthdbgjhonnogpaaGreatDoor

/- Where a piece may go: impl.Possible. -/
import Derived.Test.YthdbgjhonnogpaaDoorBpQ
namespace Go.Proofs.YthdbgjhonnogpaaDoor
open Go.ChangeShapes Go.WideShapes Go.ChangeAt Go.RowKit Plain
set_option maxHeartbeats 1000000
set_option linter.unusedVariables false
set_option linter.unusedSimpArgs false

theorem squareP_any (s : Int) (h0 : 0 ≤ s) (h1 : s < 64) (w : World) :
    Calls Tryd.prog 28 #[.int .i64 s] w fun e w' => e = .returned (.int .i8 s) ∧ w = w' := by
  go_enter Tryd.func28, Tryd.ntmps28
  go_wp2
  go_ret
  exact ⟨rfl, rfl⟩
theorem smallP_any (a : Int) (h0 : -128 ≤ a) (h1 : a ≤ 127) (w : World) :
    Calls Tryd.prog 27 #[.int .i64 a] w fun e w' => e = .returned (.int .i8 a) ∧ w = w' := by
  go_enter Tryd.func27, Tryd.ntmps27
  go_wp2
  go_ret
  exact ⟨rfl, rfl⟩
/-- What the program says of a piece's squares. -/
def possOf (g : Nat → Int) (c : Nat) (k : Int) (s : Nat) : BitVec 64 := possB k ((c : Int) + 1) s (fullOf (bbsOf g) 14) (fullOf (bbsOf g) 12) (fullOf (bbsOf g) 13) (epB (g 66))
theorem doorPossible_any (gp gb : Nat) (bb : Nat → BitVec 64) (wk bk : Int) (t ep : Int) (ht : t = 1 ∨ t = 2) (hep : -1 ≤ ep ∧ ep < 64) (k : Int) (hk : 1 ≤ k ∧ k ≤ 6) (s : Nat) (hs : s < 64) (w : World) (hT : Tabs w) (hK : KTabs w)
    (hb : w.rowIs gb tBoard 17 (cellB bb wk bk)) (hp0 : w.cell? ⟨gp, 0, none⟩ = some (.pointer (some ⟨gb, 0, none⟩))) (hp5 : w.cell? ⟨gp, 5, none⟩ = some (.int .i8 t)) (hp6 : w.cell? ⟨gp, 6, none⟩ = some (.int .i8 ep)) :
    Calls Tryd.prog 26 #[.pointer (some ⟨gp, 0, none⟩), .int .i8 k, .int .i8 (s : Int)] w fun e w' => e = .returned (.int .u64 (tn (possB k t s (bb 14) (bb 12) (bb 13) (epB ep)))) ∧ ∃ n, w' = w.drewN n := by
  have H := Lib.hid (bbPossible_any gp gb bb wk bk t ep ht hep k hk s hs w hT hK hb hp0 hp5 hp6)
  generalize possB k t s (bb 14) (bb 12) (bb 13) (epB ep) = X at *
  clear hT hK hb hp0 hp5 hp6
  go_enter Tryd.func26, Tryd.ntmps26
  go_wp2_with (go_at_call 44; refine H.out.mono ?_; rintro e w' ⟨rfl, n, rfl⟩)
  go_ret
  exact ⟨rfl, _, rfl⟩
def laidB (w : World) (g : Nat → Int) : World := ((w.alloc (.cells (rowArr 69 fun i => .int .i64 (g i)) 24)).alloc (.cells #[.int .u64 0] 30)).alloc (.cells #[.bool false] 4)
theorem clo_Possible (p0 p1 : Addr) (w : World) :
    CallsD Tryd.prog 25 #[.pointer (some p0), .pointer (some p1)] .returning w fun e u' w' => e = .returned (.tuple #[]) ∧ u' = .returning ∧ w' = w := by
  refine callsD_of_wpS Tryd.func25 rfl fun c₀ cs hu => ?_
  apply wpS_seq
  apply wpS_region
  simp [wpOpsS, go_sem, recoverD, hu, Tryd.ntmps25, Exit.thenS]
  refine wpS_cond (t := false) (by simp [Act.eval, Array.replicate]) ?_
  simp only [Bool.false_eq_true, if_false]
  refine wpS_of_wp (wp_skip ?_)
  cases c₀
  simp_all [bodyPostS, results, Tryd.results25]

set_option maxRecDepth 100000 in
theorem possible_any (g : Nat → Int) (hV : VG g) (c : Nat) (hc1 : c ≤ 1) (hgc : g 64 = (c : Int)) (k : Int) (hk : 1 ≤ k ∧ k ≤ 6) (s : Nat) (hs64 : s < 64) (w : World) (hT : Tabs w) (hP : TabsP w) (hK : KTabs w) :
    Calls Tryd.prog 13 #[intRow 69 g, .int .i64 k, .int .i64 (s : Int)] w fun e w' => e = .returned (.tuple #[.int .u64 (tn (possOf g c k s)), .bool true]) ∧ Below w.heap.size w w' := by
  have hmf := mkf Tryd.prog
  have hr : (laidB w g).rowIs w.heap.size 24 69 (fun i => .int .i64 (g i)) := ((rowIs_new w 24 69 (fun i => .int .i64 (g i))).alloc _).alloc _
  have hb : Below w.heap.size w (laidB w g) := (((Below.refl _ _).alloc (Nat.le_refl _) _).alloc (by simp) _).alloc (by simp; omega) _
  have hs : (laidB w g).heap.size = w.heap.size + 3 := by simp [laidB]
  have hpos := Lib.hid (position_any g hV c hc1 hgc (laidB w g) (hT.below hb) (hP.below hb) (hK.below hb))
  have hTb := hT.below hb
  have hKb := hK.below hb
  unfold intRow at hpos
  unfold LaidP at hpos
  have hrow0 := Lib.hid (rowIs_block hr)
  have hone : ∀ (v : World), (v.alloc (.cells #[.bool false] 4)).rowIs v.heap.size 4 1 (fun _ => .bool false) := fun v => World.rowIs_alloc v #[.bool false] 4 (fun _ => .bool false) (fun i hi => by obtain rfl : i = 0 := (by simp at hi; omega); rfl)
  have hon2 : ∀ (v : World), (v.alloc (.cells #[.int .u64 0] 30)).rowIs v.heap.size 30 1 (fun _ => .int .u64 0) := fun v => World.rowIs_alloc v #[.int .u64 0] 30 (fun _ => .int .u64 0) (fun i hi => by obtain rfl : i = 0 := (by simp at hi; omega); rfl)
  have hc1' : (laidB w g).rowIs (w.heap.size + 1) 30 1 (fun _ => .int .u64 0) := by
    have := (hon2 (w.alloc (.cells (rowArr 69 fun i => .int .i64 (g i)) 24))).alloc (.cells #[.bool false] 4)
    simpa [laidB] using this
  have hc2 : (laidB w g).rowIs (w.heap.size + 1 + 1) 4 1 (fun _ => .bool false) := by
    have := hone ((w.alloc (.cells (rowArr 69 fun i => .int .i64 (g i)) 24)).alloc (.cells #[.int .u64 0] 30))
    simpa [laidB] using this
  replace hb := Lib.hid hb
  have hDp := Lib.hid (fun (gp gb : Nat) (w1 : World) (hb1 : Below (laidB w g).heap.size (laidB w g) w1) (hrb : w1.rowIs gb tBoard 17 (calcRow (bbsOf g) 64)) (hrp : w1.rowIs gp tPos 8 (posF gb (casT (g 65)) (g 67) (g 68) ((c : Int) + 1) (g 66) (inCk (bbsOf g) (wkOf (bbsOf g) 64) (bkOf (bbsOf g) 64) ((c : Int) + 1)))) =>
    doorPossible_any gp gb (fullOf (bbsOf g)) (wkOf (bbsOf g) 64) (bkOf (bbsOf g) 64) ((c : Int) + 1) (g 66) (by omega) hV.ep k hk s hs64 w1 (hTb.below hb1) (hKb.below hb1) hrb (hrp.cell (i := 0) (by omega)) (hrp.cell (i := 5) (by omega)) (hrp.cell (i := 6) (by omega)))
  have hPo := Lib.hid (show possOf g c k s = possB k ((c : Int) + 1) s (fullOf (bbsOf g) 14) (fullOf (bbsOf g) 12) (fullOf (bbsOf g) 13) (epB (g 66)) from rfl)
  rw [← hPo.out] at hDp
  generalize possOf g c k s = PO at *
  generalize hCK : inCk (bbsOf g) (wkOf (bbsOf g) 64) (bkOf (bbsOf g) 64) ((c : Int) + 1) = CK at *
  clear hT hP hK hTb hKb hone hon2 hV hgc hr hPo hCK
  unfold intRow
  go_enter_defers Tryd.func13, Tryd.ntmps13
  go_wp2_with (first
    | (go_at_call 26; refine (hDp.out gp gb w1 hb1 hrb hrp).mono ?_; rintro e w3 ⟨rfl, n, rfl⟩; have hbz : Below (laidB w g).heap.size (laidB w g) (w1.drewN n) := hb1.trans ⟨rfl, rfl, rfl, Nat.le_refl _, fun _ _ => rfl⟩; have k1 := (rowIs_below hc1' hbz (by omega)).cell (i := 0) (by omega); have k2 := (rowIs_below hc2 hbz (by omega)).cell (i := 0) (by omega); have f1 := (rowIs_below hc1' hbz (by omega)).frozen 0; have f2 := (rowIs_below hc2 hbz (by omega)).frozen 0; clear hrb hrp hb1; generalize w1.drewN n = w3 at *)
    | (go_at_call 28; refine (squareP_any _ (by omega) (by omega) _).mono ?_; rintro e w' ⟨rfl, rfl⟩)
    | (go_at_call 27; refine (smallP_any _ (by omega) (by omega) _).mono ?_; rintro e w' ⟨rfl, rfl⟩)
    | (go_at_call 18; refine hpos.out.mono ?_; rintro e w1 ⟨gp, gb, rfl, hgp, hgb, hrb, hrp, hb1⟩)
    | (refine wpList_load_row rfl 24 _ rfl w.heap.size rfl _ _ (0, 0) _ hrow0.out Tryd.underlying24 rfl (by rw [infoPos', rowArr_size]) ?_))
  refine leaves_cons (f := 25) (args := #[.pointer (some ⟨w.heap.size + 1, 0, none⟩), .pointer (some ⟨w.heap.size + 2, 0, none⟩)]) (by simp) (by simp [go_sem]) ?_; refine (clo_Possible _ _ _).mono ?_; rintro e u' w'' ⟨rfl, rfl, rfl⟩
  simp [Leaves, settle, results, Tryd.results13, asAddr, go_sem, k1, k2]
  exact (((hb.out.trans (hbz.mono (by omega))).setCell (by simp) _).setCell (by simp; omega) _)
end Go.Proofs.YthdbgjhonnogpaaDoor

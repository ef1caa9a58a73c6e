/- Boards that are flipped: the package's Transpose and Flip, and the wrappers of impl. -/
import Derived.Test.YtgafddcmpdbdbaaDoorMoved
import Derived.Test.YtgafddcmpdbdbaaDoorTabs
namespace Go.Proofs.YtgafddcmpdbdbaaDoor
open Go.ChangeShapes Go.WideShapes Go.ChangeAt Go.RowKit Plain
set_option maxHeartbeats 4000000
set_option linter.unusedVariables false
set_option linter.unusedSimpArgs false

theorem newSquare_any (f r : Int) (h0 : 0 ≤ f) (h1 : f ≤ 7) (h2 : 0 ≤ r) (h3 : r ≤ 7) (w : World) :
    Calls Tryd.prog 73 #[.int .i8 f, .int .i8 r] w fun e w' => e = .returned (.int .i8 (8 * r + f)) ∧ w = w' := by
  go_enter Tryd.func73, Tryd.ntmps73
  go_wp2
  go_ret
  exact ⟨ret_int (by omega), rfl⟩
def trTo (i : Nat) : Nat := 8 * (7 - i % 8) + (7 - i / 8)
def udTo (i : Nat) : Nat := 8 * (7 - i / 8) + i % 8
def lrTo (i : Nat) : Nat := 8 * (i / 8) + (7 - i % 8)
def flTo (lr : Bool) (i : Nat) : Nat := if lr then lrTo i else udTo i
theorem trTo_lt {i : Nat} (h : i < 64) : trTo i < 64 := by unfold trTo; omega
theorem trTo_two {i : Nat} (h : i < 64) : trTo (trTo i) = i := by unfold trTo; omega
theorem flTo_lt (lr : Bool) {i : Nat} (h : i < 64) : flTo lr i < 64 := by unfold flTo lrTo udTo; cases lr <;> simp <;> omega
theorem flTo_two (lr : Bool) {i : Nat} (h : i < 64) : flTo lr (flTo lr i) = i := by unfold flTo lrTo udTo; cases lr <;> simp <;> omega
theorem flTo_swap {i : Nat} (h : i < 64) : flTo true (flTo false i) = flTo false (flTo true i) := by unfold flTo lrTo udTo; simp; omega
theorem moved_step {v : Nat → Int} {to : Nat → Nat} {k : Nat} (h2 : ∀ i, i < 64 → to (to i) = i) (hk : k < 64) (j : Nat) (hj : j < 64) :
    (if j = to k then v k else movedStep v to k j) = movedStep v to (k + 1) j := by
  unfold movedStep
  have hj2 := h2 j hj
  by_cases e : j = to k
  · subst e; simp [h2 k hk]
  · have h2 : to j ≠ k := fun h => e (by rw [← h, hj2])
    have : (to j < k + 1) = (to j < k) := by simp only [eq_iff_iff]; omega
    simp [e, this]
set_option maxRecDepth 100000 in
theorem transpose_any (g : Nat) (f : Nat → Value) (bb : Nat → BitVec 64) (w : World) (hrw : w.rowIs g tBoard 17 f) (hf : ∀ j, j < 12 → f j = .int .u64 (tn (bb j))) (hT : TabsP w) :
    Calls Tryd.prog 39 #[.pointer (some ⟨g, 0, none⟩)] w fun e w' => BoardPost (fun j => pieceAt bb (trTo j)) w e w' := by
  have hmm := @run_makeMap Tryd.prog
  have hg := hrw.lt
  have hm0 : mapIs (w.alloc (.map #[] 0)) w.heap.size 0 (movedStep (pieceAt bb) trTo 0) := mapIs_congr (mapIs_made w) fun s _ => by simp [movedStep]
  have hB0 : Below w.heap.size w (w.alloc (.map #[] 0)) := (Below.refl _ _).alloc (Nat.le_refl _) _
  have hT0 := hT.below hB0
  go_enter Tryd.func39, Tryd.ntmps39
  go_wp2
  generalize w.alloc (.map #[] 0) = w2 at *
  go_loopw [9] (fun i wr => ∃ k n : Nat, k ≤ 64 ∧ n ≤ k ∧ i = .int .i64 k ∧ mapIs wr w.heap.size n (movedStep (pieceAt bb) trTo k) ∧ Below w.heap.size w wr ∧ TabsP wr) (fun i _ => 64 - (intOf i).toNat)
  case atStart => exact ⟨0, 0, by omega, by omega, rfl, hm0, hB0, hT0⟩
  case round =>
    clear hm0 hB0 hT0 hT
    obtain ⟨k, n, hk, hn, rfl, hm, hb, hT⟩ := hrel
    by_cases hlt : k < 64
    · have hrange := pieceFrom_range bb k 12 0
      have hcall := piece_any g f bb wr (rowIs_below hrw hb hg) hf hT (k : Int) (by omega) (by omega)
      rw [Int.toNat_natCast] at hcall
      have hpa : 0 ≤ pieceAt bb k ∧ pieceAt bb k ≤ 12 := by unfold pieceAt; omega
      have e1 : IntKind.i8.wrap (k : Int) = (k : Int) := IntWalk.i8_in _ (by omega)
      have hf := sqFile_any (k : Int) (by omega) (by omega) wr
      have hr := sqRank_any (k : Int) (by omega) (by omega) wr
      have hn := newSquare_any (7 - (k : Int) / 8) (7 - (k : Int) % 8) (by omega) (by omega) (by omega) (by omega) wr
      rw [show 8 * (7 - (k : Int) % 8) + (7 - (k : Int) / 8) = ((trTo k : Nat) : Int) by unfold trTo; omega] at hn
      have e2 : IntKind.i8.wrap (7 - (k : Int) / 8) = 7 - (k : Int) / 8 := IntWalk.i8_in _ (by omega)
      have e3 : IntKind.i8.wrap (7 - (k : Int) % 8) = 7 - (k : Int) % 8 := IntWalk.i8_in _ (by omega)
      have hto := trTo_lt hlt
      have hcall := Lib.hid hcall
      generalize hpv : pieceAt bb k = pv at hcall hpa
      have hpv := Lib.hid hpv
      generalize htv : trTo k = tv at hn hto
      have htv := Lib.hid htv
      clear hrange
      go_wp2_with (first
        | (go_at_call 71; refine hr.mono ?_; rintro e w' ⟨rfl, rfl⟩)
        | (go_at_call 72; refine hf.mono ?_; rintro e w' ⟨rfl, rfl⟩)
        | (go_at_call 73; refine hn.mono ?_; rintro e w' ⟨rfl, rfl⟩)
        | (go_at_call 69; refine hcall.out.mono ?_; rintro e w' ⟨rfl, rfl⟩)
        | (at_mapUpdate; refine wpList_storeSq _ rfl _ _ _ rfl w.heap.size n _ rfl hm (by omega) tv hto rfl pv (by omega) (by omega) rfl ?_; intro w3 hm3 hg3))
      have hm' := mapIs_congr hm3 (u := movedStep (pieceAt bb) trTo (k + 1)) fun s hs => by rw [← htv.out, ← hpv.out]; exact moved_step (fun i hi => trTo_two hi) hlt s hs
      exact ⟨⟨k + 1, n + 1, by omega, by omega, by go_num, hm', hb.grown hg3 hb.size (by intro r hr; cases hr; omega), tabsP_grown hT hg3 (mapIs_lt hm) hm⟩, by simp [intOf]; omega⟩
    · obtain rfl : k = 64 := by omega
      have hm' := mapIs_congr hm (u := fun j => pieceAt bb (trTo j)) fun s hs => by unfold movedStep; rw [if_pos (trTo_lt hs)]
      have hcall := newBoard_any w.heap.size n _ wr hm' hT
      have hcall := Lib.hid hcall
      clear hm hm' hT
      go_wp2_with (go_at_call 70; refine hcall.out.mono ?_; rintro e w' ⟨rfl, hr2, hg2⟩)
      go_ret
      exact ⟨_, rfl, hb.size, hr2, hb.trans (hg2.mono hb.size)⟩
set_option maxRecDepth 100000 in
theorem flip_any (g : Nat) (f : Nat → Value) (bb : Nat → BitVec 64) (w : World) (hrw : w.rowIs g tBoard 17 f) (hf : ∀ j, j < 12 → f j = .int .u64 (tn (bb j))) (hT : TabsP w) (lr : Bool) :
    Calls Tryd.prog 42 #[.pointer (some ⟨g, 0, none⟩), .int .i64 (if lr then 1 else 0)] w fun e w' => BoardPost (fun j => pieceAt bb (flTo lr j)) w e w' := by
  cases lr
  · skip
    have hmm := @run_makeMap Tryd.prog
    have hg := hrw.lt
    have hm0 : mapIs (w.alloc (.map #[] 0)) w.heap.size 0 (movedStep (pieceAt bb) (flTo false) 0) := mapIs_congr (mapIs_made w) fun s _ => by simp [movedStep]
    have hB0 : Below w.heap.size w (w.alloc (.map #[] 0)) := (Below.refl _ _).alloc (Nat.le_refl _) _
    have hT0 := hT.below hB0
    go_enter Tryd.func42, Tryd.ntmps42
    go_wp2
    generalize w.alloc (.map #[] 0) = w2 at *
    go_loopw [13] (fun i wr => ∃ k n : Nat, k ≤ 64 ∧ n ≤ k ∧ i = .int .i64 k ∧ mapIs wr w.heap.size n (movedStep (pieceAt bb) (flTo false) k) ∧ Below w.heap.size w wr ∧ TabsP wr) (fun i _ => 64 - (intOf i).toNat)
    case atStart => exact ⟨0, 0, by omega, by omega, rfl, hm0, hB0, hT0⟩
    case round =>
      clear hm0 hB0 hT0 hT
      obtain ⟨k, n, hk, hn, rfl, hm, hb, hT⟩ := hrel
      by_cases hlt : k < 64
      · have hrange := pieceFrom_range bb k 12 0
        have hcall := piece_any g f bb wr (rowIs_below hrw hb hg) hf hT (k : Int) (by omega) (by omega)
        rw [Int.toNat_natCast] at hcall
        have hpa : 0 ≤ pieceAt bb k ∧ pieceAt bb k ≤ 12 := by unfold pieceAt; omega
        have e1 : IntKind.i8.wrap (k : Int) = (k : Int) := IntWalk.i8_in _ (by omega)
        have hf := sqFile_any (k : Int) (by omega) (by omega) wr
        have hr := sqRank_any (k : Int) (by omega) (by omega) wr
        have hn := newSquare_any ((k : Int) % 8) (7 - (k : Int) / 8) (by omega) (by omega) (by omega) (by omega) wr
        rw [show 8 * (7 - (k : Int) / 8) + (k : Int) % 8 = (((flTo false) k : Nat) : Int) by unfold flTo udTo; simp; omega] at hn
        have e2 : IntKind.i8.wrap (7 - (k : Int) / 8) = 7 - (k : Int) / 8 := IntWalk.i8_in _ (by omega)
        have e3 : IntKind.i8.wrap (7 - (k : Int) % 8) = 7 - (k : Int) % 8 := IntWalk.i8_in _ (by omega)
        have hto := flTo_lt false hlt
        have hcall := Lib.hid hcall
        generalize hpv : pieceAt bb k = pv at hcall hpa
        have hpv := Lib.hid hpv
        generalize htv : (flTo false) k = tv at hn hto
        have htv := Lib.hid htv
        clear hrange
        go_wp2_with (first
          | (go_at_call 71; refine hr.mono ?_; rintro e w' ⟨rfl, rfl⟩)
          | (go_at_call 72; refine hf.mono ?_; rintro e w' ⟨rfl, rfl⟩)
          | (go_at_call 73; refine hn.mono ?_; rintro e w' ⟨rfl, rfl⟩)
          | (go_at_call 69; refine hcall.out.mono ?_; rintro e w' ⟨rfl, rfl⟩)
          | (at_mapUpdate; refine wpList_storeSq _ rfl _ _ _ rfl w.heap.size n _ rfl hm (by omega) tv hto rfl pv (by omega) (by omega) rfl ?_; intro w3 hm3 hg3))
        have hm' := mapIs_congr hm3 (u := movedStep (pieceAt bb) (flTo false) (k + 1)) fun s hs => by rw [← htv.out, ← hpv.out]; exact moved_step (fun i hi => flTo_two _ hi) hlt s hs
        exact ⟨⟨k + 1, n + 1, by omega, by omega, by go_num, hm', hb.grown hg3 hb.size (by intro r hr; cases hr; omega), tabsP_grown hT hg3 (mapIs_lt hm) hm⟩, by simp [intOf]; omega⟩
      · obtain rfl : k = 64 := by omega
        have hm' := mapIs_congr hm (u := fun j => pieceAt bb ((flTo false) j)) fun s hs => by unfold movedStep; rw [if_pos (flTo_lt _ hs)]
        have hcall := newBoard_any w.heap.size n _ wr hm' hT
        have hcall := Lib.hid hcall
        clear hm hm' hT
        go_wp2_with (go_at_call 70; refine hcall.out.mono ?_; rintro e w' ⟨rfl, hr2, hg2⟩)
        go_ret
        exact ⟨_, rfl, hb.size, hr2, hb.trans (hg2.mono hb.size)⟩
  · skip
    have hmm := @run_makeMap Tryd.prog
    have hg := hrw.lt
    have hm0 : mapIs (w.alloc (.map #[] 0)) w.heap.size 0 (movedStep (pieceAt bb) (flTo true) 0) := mapIs_congr (mapIs_made w) fun s _ => by simp [movedStep]
    have hB0 : Below w.heap.size w (w.alloc (.map #[] 0)) := (Below.refl _ _).alloc (Nat.le_refl _) _
    have hT0 := hT.below hB0
    go_enter Tryd.func42, Tryd.ntmps42
    go_wp2
    generalize w.alloc (.map #[] 0) = w2 at *
    go_loopw [13] (fun i wr => ∃ k n : Nat, k ≤ 64 ∧ n ≤ k ∧ i = .int .i64 k ∧ mapIs wr w.heap.size n (movedStep (pieceAt bb) (flTo true) k) ∧ Below w.heap.size w wr ∧ TabsP wr) (fun i _ => 64 - (intOf i).toNat)
    case atStart => exact ⟨0, 0, by omega, by omega, rfl, hm0, hB0, hT0⟩
    case round =>
      clear hm0 hB0 hT0 hT
      obtain ⟨k, n, hk, hn, rfl, hm, hb, hT⟩ := hrel
      by_cases hlt : k < 64
      · have hrange := pieceFrom_range bb k 12 0
        have hcall := piece_any g f bb wr (rowIs_below hrw hb hg) hf hT (k : Int) (by omega) (by omega)
        rw [Int.toNat_natCast] at hcall
        have hpa : 0 ≤ pieceAt bb k ∧ pieceAt bb k ≤ 12 := by unfold pieceAt; omega
        have e1 : IntKind.i8.wrap (k : Int) = (k : Int) := IntWalk.i8_in _ (by omega)
        have hf := sqFile_any (k : Int) (by omega) (by omega) wr
        have hr := sqRank_any (k : Int) (by omega) (by omega) wr
        have hn := newSquare_any (7 - (k : Int) % 8) ((k : Int) / 8) (by omega) (by omega) (by omega) (by omega) wr
        rw [show 8 * ((k : Int) / 8) + (7 - (k : Int) % 8) = (((flTo true) k : Nat) : Int) by unfold flTo lrTo; simp; omega] at hn
        have e2 : IntKind.i8.wrap (7 - (k : Int) / 8) = 7 - (k : Int) / 8 := IntWalk.i8_in _ (by omega)
        have e3 : IntKind.i8.wrap (7 - (k : Int) % 8) = 7 - (k : Int) % 8 := IntWalk.i8_in _ (by omega)
        have hto := flTo_lt true hlt
        have hcall := Lib.hid hcall
        generalize hpv : pieceAt bb k = pv at hcall hpa
        have hpv := Lib.hid hpv
        generalize htv : (flTo true) k = tv at hn hto
        have htv := Lib.hid htv
        clear hrange
        go_wp2_with (first
          | (go_at_call 71; refine hr.mono ?_; rintro e w' ⟨rfl, rfl⟩)
          | (go_at_call 72; refine hf.mono ?_; rintro e w' ⟨rfl, rfl⟩)
          | (go_at_call 73; refine hn.mono ?_; rintro e w' ⟨rfl, rfl⟩)
          | (go_at_call 69; refine hcall.out.mono ?_; rintro e w' ⟨rfl, rfl⟩)
          | (at_mapUpdate; refine wpList_storeSq _ rfl _ _ _ rfl w.heap.size n _ rfl hm (by omega) tv hto rfl pv (by omega) (by omega) rfl ?_; intro w3 hm3 hg3))
        have hm' := mapIs_congr hm3 (u := movedStep (pieceAt bb) (flTo true) (k + 1)) fun s hs => by rw [← htv.out, ← hpv.out]; exact moved_step (fun i hi => flTo_two _ hi) hlt s hs
        exact ⟨⟨k + 1, n + 1, by omega, by omega, by go_num, hm', hb.grown hg3 hb.size (by intro r hr; cases hr; omega), tabsP_grown hT hg3 (mapIs_lt hm) hm⟩, by simp [intOf]; omega⟩
      · obtain rfl : k = 64 := by omega
        have hm' := mapIs_congr hm (u := fun j => pieceAt bb ((flTo true) j)) fun s hs => by unfold movedStep; rw [if_pos (flTo_lt _ hs)]
        have hcall := newBoard_any w.heap.size n _ wr hm' hT
        have hcall := Lib.hid hcall
        clear hm hm' hT
        go_wp2_with (go_at_call 70; refine hcall.out.mono ?_; rintro e w' ⟨rfl, hr2, hg2⟩)
        go_ret
        exact ⟨_, rfl, hb.size, hr2, hb.trans (hg2.mono hb.size)⟩
end Go.Proofs.YtgafddcmpdbdbaaDoor

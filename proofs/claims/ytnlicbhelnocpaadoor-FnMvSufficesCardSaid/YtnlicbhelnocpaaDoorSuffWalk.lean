/- The walk of the law FnMvSuffices. -/
import Derived.Test.YtnlicbhelnocpaaDoorSuffLaw
import Derived.Test.YtnlicbhelnocpaaDoorOpenArr
namespace Go.Proofs.YtnlicbhelnocpaaDoor.Suffices
open Go.ChangeShapes Go.WideShapes Go.ChangeAt Go.RowKit Go.Maps Plain
set_option maxHeartbeats 400000
set_option linter.unusedVariables false
set_option linter.unusedSimpArgs false

theorem count1 (bd : Nat → Int) (w : World) : Calls Tryd.prog 11 #[intRow 69 (posOf bd), .int .i64 1, .int .i64 0] w fun e w' => e = .returned (.int .i64 (cnt (fun i => bd i == 1) 64)) ∧ Below w.heap.size w w' := by
  have := count_any (posOf bd) 1 0 (by omega) (by omega) (by omega) (by omega) w
  rwa [cnt_congr (q := fun i => bd i == 1) fun i hi => by unfold posOf; rw [if_pos hi]; rfl] at this
theorem count7 (bd : Nat → Int) (w : World) : Calls Tryd.prog 11 #[intRow 69 (posOf bd), .int .i64 1, .int .i64 1] w fun e w' => e = .returned (.int .i64 (cnt (fun i => bd i == 7) 64)) ∧ Below w.heap.size w w' := by
  have := count_any (posOf bd) 1 1 (by omega) (by omega) (by omega) (by omega) w
  rwa [cnt_congr (q := fun i => bd i == 7) fun i hi => by unfold posOf; rw [if_pos hi]; rfl] at this
theorem dead1 (bd : Nat → Int) (hR : Right bd) (w : World) : Calls Tryd.prog 13 #[intRow 69 (posOf bd)] w fun e w' => e = .returned (.bool (deadB bd)) ∧ Below w.heap.size w w' := by
  have := dead_any (posOf bd) (fun i hi => by unfold posOf; rw [if_pos hi]; exact hR i hi) w
  have e : deadB (posOf bd) = deadB bd := by
    have h := fun i (hi : i < 64) => show posOf bd i = bd i by unfold posOf; rw [if_pos hi]
    unfold deadB
    rw [cnt_congr (q := fun i => heavyK (kindOf (bd i))) fun i hi => by rw [h i hi], cnt_congr (p := knightOn (posOf bd)) (q := knightOn bd) fun i hi => by unfold knightOn; rw [h i hi],
      cnt_congr (p := bishopOn (posOf bd) 0) (q := bishopOn bd 0) fun i hi => by unfold bishopOn; rw [h i hi], cnt_congr (p := bishopOn (posOf bd) 1) (q := bishopOn bd 1) fun i hi => by unfold bishopOn; rw [h i hi]]
  rwa [e] at this
/-- The board's block and the position's, once the position is laid. -/
noncomputable def laidP (w : World) (bd : Nat → Int) : World := ((w.alloc (.cells (rowArr 64 fun i => .int .i64 (bd i)) 23)).alloc (.cells Tryd.zeroCells28 28)).setRow (w.heap.size + 1) (rowArr 69 fun i => .int .i64 (posOf bd i))
theorem laidP_facts (w : World) (bd : Nat → Int) : (laidP w bd).rowIs w.heap.size 23 64 (fun i => .int .i64 (bd i)) ∧ (laidP w bd).rowIs (w.heap.size + 1) 28 69 (fun i => .int .i64 (posOf bd i)) ∧ Below w.heap.size w (laidP w bd) ∧ (laidP w bd).heap.size = w.heap.size + 2 := by
  have h1 := (rowIs_new w 23 64 (fun i => .int .i64 (bd i))).alloc (.cells Tryd.zeroCells28 28)
  have h2 : ((w.alloc (.cells (rowArr 64 fun i => .int .i64 (bd i)) 23)).alloc (.cells Tryd.zeroCells28 28)).rowIs (w.heap.size + 1) 28 69 (fun _ => .int .i64 0) := by
    have := rowIs_new (w.alloc (.cells (rowArr 64 fun i => .int .i64 (bd i)) 23)) 28 69 (fun _ => .int .i64 0)
    rw [World.size_alloc] at this
    rw [zeroPos']; exact this
  refine ⟨rowIs_setRow_other h1 (by omega) _, rowIs_setRow h2 _, below_setRow (((Below.refl _ _).alloc (Nat.le_refl _) _).alloc (by simp) _) (by omega) _, by simp [laidP]⟩
set_option maxRecDepth 100000 in
theorem walk_wrong (bd : Nat → Int) (hR : ¬ Right bd) (W : World) :
    Calls Tryd.prog 4 #[intRow 64 bd] W fun e w' => e = .returned (.bool true) ∧ Below W.heap.size W w' := by
  obtain ⟨hr1, hr2, hb, hs⟩ := laidP_facts W bd
  have hfold := fold_pos bd
  have hs64 : (rowArr 64 fun i => Value.int .i64 (bd i)).size = 64 := rowArr_size _ _
  rw [hs64] at hfold
  have h1 := (rowIs_new W 23 64 (fun i => .int .i64 (bd i)))
  have h2 : ((W.alloc (.cells (rowArr 64 fun i => .int .i64 (bd i)) 23)).alloc (.cells Tryd.zeroCells28 28)).rowIs (W.heap.size + 1) 28 69 (fun _ => .int .i64 0) := by
    have := rowIs_new (W.alloc (.cells (rowArr 64 fun i => .int .i64 (bd i)) 23)) 28 69 (fun _ => .int .i64 0)
    rw [World.size_alloc] at this
    rw [zeroPos']; exact this
  unfold intRow
  go_enter Tryd.func4, Tryd.ntmps4
  go_wp2_with (first
    | (go_at_call 10; refine (bdRight_false bd hR (laidP W bd)).mono ?_; rintro e w2 ⟨rfl, hb2⟩)
    | (refine wpList_load_row rfl 23 _ rfl W.heap.size rfl _ _ (0, 0) _ (rowIs_block h1) Tryd.underlying23 rfl (by rw [info64, rowArr_size]) ?_)
    | (refine wpList_load_row rfl 23 _ rfl W.heap.size rfl _ _ (0, 0) _ (rowIs_block hr1) Tryd.underlying23 rfl (by rw [info64, rowArr_size]) ?_)
    | (refine wpList_store_row rfl 28 _ _ rfl (W.heap.size + 1) _ rfl rfl _ _ (rowIs_block h2) (by rw [infoPos', rowArr_size]) (by rw [rowArr_size, rowArr_size]) (intRow_one _ _) ?_; change wpList _ _ _ _ _ (laidP W bd)))
  go_ret
  exact ⟨rfl, hb.trans (hb2.mono (by omega))⟩
set_option maxRecDepth 100000 in
theorem walk_right (bd : Nat → Int) (hR : Right bd) (W : World) (hT : TabsP W) :
    Calls Tryd.prog 4 #[intRow 64 bd] W fun e w' => e = .returned (.bool true) ∧ Below W.heap.size W w' := by
  obtain ⟨hr1, hr2, hb, hs⟩ := laidP_facts W bd
  have hfold := fold_pos bd
  have hs64 : (rowArr 64 fun i => Value.int .i64 (bd i)).size = 64 := rowArr_size _ _
  rw [hs64] at hfold
  have h1 := (rowIs_new W 23 64 (fun i => .int .i64 (bd i)))
  have h2 : ((W.alloc (.cells (rowArr 64 fun i => .int .i64 (bd i)) 23)).alloc (.cells Tryd.zeroCells28 28)).rowIs (W.heap.size + 1) 28 69 (fun _ => .int .i64 0) := by
    have := rowIs_new (W.alloc (.cells (rowArr 64 fun i => .int .i64 (bd i)) 23)) 28 69 (fun _ => .int .i64 0)
    rw [World.size_alloc] at this
    rw [zeroPos']; exact this
  have hTl := hT.below hb
  replace hb := Lib.hid hb
  replace hs := Lib.hid hs
  have hb2s : ∀ w2, Below (laidP W bd).heap.size (laidP W bd) w2 → w2.rowIs W.heap.size 23 64 (fun i => .int .i64 (bd i)) ∧ w2.rowIs (W.heap.size + 1) 28 69 (fun i => .int .i64 (posOf bd i)) := fun w2 h => ⟨rowIs_below hr1 h (by rw [hs.out]; omega), rowIs_below hr2 h (by rw [hs.out]; omega)⟩
  replace hb2s := Lib.hid hb2s
  by_cases h1n : cnt (fun i => bd i == 1) 64 = 1
  case neg =>
    have hd : ((cnt (fun i => bd i == 1) 64 : Int) != 1) = true := by simp; omega
    unfold intRow
    go_enter Tryd.func4, Tryd.ntmps4
    go_wp2_with (first
    | (go_at_call 11; refine (count1 bd w2).mono ?_; rintro e w3 ⟨rfl, hb3⟩; have hb3' := hb2.trans (hb3.mono hb2.size); have hP3 := (hb2s.out w3 hb3').2)
    | (refine wpList_unguard (by rfl) (wpList_load_row rfl 28 _ rfl (W.heap.size + 1) rfl _ _ (0, 0) _ (rowIs_block hP2) Tryd.underlying28 rfl (by rw [infoPos', rowArr_size]) ?_))
    | (go_at_call 10; refine (bdRight_true bd hR (laidP W bd)).mono ?_; rintro e w2 ⟨rfl, hb2⟩; have hP2 := (hb2s.out w2 hb2).2)
    | (refine wpList_load_row rfl 23 _ rfl W.heap.size rfl _ _ (0, 0) _ (rowIs_block h1) Tryd.underlying23 rfl (by rw [info64, rowArr_size]) ?_)
    | (refine wpList_load_row rfl 23 _ rfl W.heap.size rfl _ _ (0, 0) _ (rowIs_block hr1) Tryd.underlying23 rfl (by rw [info64, rowArr_size]) ?_)
    | (refine wpList_store_row rfl 28 _ _ rfl (W.heap.size + 1) _ rfl rfl _ _ (rowIs_block h2) (by rw [infoPos', rowArr_size]) (by rw [rowArr_size, rowArr_size]) (intRow_one _ _) ?_; change wpList _ _ _ _ _ (laidP W bd)))
    go_ret
    exact ⟨rfl, hb.out.trans (hb3'.mono (by rw [hs.out]; omega))⟩
  by_cases h7n : cnt (fun i => bd i == 7) 64 = 1
  case neg =>
    have hd : ((cnt (fun i => bd i == 1) 64 : Int) != 1) = false := by simp; omega
    have hd7 : ((cnt (fun i => bd i == 7) 64 : Int) != 1) = true := by simp; omega
    unfold intRow
    go_enter Tryd.func4, Tryd.ntmps4
    go_wp2_with (first
    | (go_at_call 11; refine (count7 bd w3).mono ?_; rintro e w4 ⟨rfl, hb4⟩; have hb4' := hb3'.trans (hb4.mono hb3'.size); have hB4 := (hb2s.out w4 hb4').1; have hT4 := hTl.below hb4')
    | (go_at_call 11; refine (count1 bd w2).mono ?_; rintro e w3 ⟨rfl, hb3⟩; have hb3' := hb2.trans (hb3.mono hb2.size); have hP3 := (hb2s.out w3 hb3').2)
    | (refine wpList_unguard (by rfl) (wpList_load_row rfl 28 _ rfl (W.heap.size + 1) rfl _ _ (0, 0) _ (rowIs_block hP3) Tryd.underlying28 rfl (by rw [infoPos', rowArr_size]) ?_))
    | (refine wpList_unguard (by rfl) (wpList_load_row rfl 28 _ rfl (W.heap.size + 1) rfl _ _ (0, 0) _ (rowIs_block hP2) Tryd.underlying28 rfl (by rw [infoPos', rowArr_size]) ?_))
    | (go_at_call 10; refine (bdRight_true bd hR (laidP W bd)).mono ?_; rintro e w2 ⟨rfl, hb2⟩; have hP2 := (hb2s.out w2 hb2).2)
    | (refine wpList_load_row rfl 23 _ rfl W.heap.size rfl _ _ (0, 0) _ (rowIs_block h1) Tryd.underlying23 rfl (by rw [info64, rowArr_size]) ?_)
    | (refine wpList_load_row rfl 23 _ rfl W.heap.size rfl _ _ (0, 0) _ (rowIs_block hr1) Tryd.underlying23 rfl (by rw [info64, rowArr_size]) ?_)
    | (refine wpList_store_row rfl 28 _ _ rfl (W.heap.size + 1) _ rfl rfl _ _ (rowIs_block h2) (by rw [infoPos', rowArr_size]) (by rw [rowArr_size, rowArr_size]) (intRow_one _ _) ?_; change wpList _ _ _ _ _ (laidP W bd)))
    go_ret
    exact ⟨rfl, hb.out.trans (hb4'.mono (by rw [hs.out]; omega))⟩
  have p1 : 0 < cnt (fun i => bd i == 1) 64 := by omega
  have p7 : 0 < cnt (fun i => bd i == 7) 64 := by omega
  have hd : ((cnt (fun i => bd i == 1) 64 : Int) != 1) = false := by simp; omega
  have hd7 : ((cnt (fun i => bd i == 7) 64 : Int) != 1) = false := by simp; omega
  clear h1n h7n
  unfold intRow
  go_enter Tryd.func4, Tryd.ntmps4
  go_wp2_with (first
    | (go_at_call 13; refine (dead1 bd hR w5).mono ?_; rintro e w6 ⟨rfl, hb6⟩; have hb6' := hb5'.trans (hb6.mono hb5'.size))
    | (refine wpList_unguard (by rfl) (wpList_load_row rfl 28 _ rfl (W.heap.size + 1) rfl _ _ (0, 0) _ (rowIs_block hP5) Tryd.underlying28 rfl (by rw [infoPos', rowArr_size]) ?_))
    | (go_at_call 12; refine (implSufficient_any bd hR p1 p7 w4 hT4).mono ?_; rintro e w5 ⟨rfl, hb5⟩; have hb5' := hb4'.trans (hb5.mono hb4'.size); have hP5 := (hb2s.out w5 hb5').2)
    | (refine wpList_load_row rfl 23 _ rfl W.heap.size rfl _ _ (0, 0) _ (rowIs_block hB4) Tryd.underlying23 rfl (by rw [info64, rowArr_size]) ?_)
    | (go_at_call 11; refine (count7 bd w3).mono ?_; rintro e w4 ⟨rfl, hb4⟩; have hb4' := hb3'.trans (hb4.mono hb3'.size); have hB4 := (hb2s.out w4 hb4').1; have hT4 := hTl.below hb4')
    | (go_at_call 11; refine (count1 bd w2).mono ?_; rintro e w3 ⟨rfl, hb3⟩; have hb3' := hb2.trans (hb3.mono hb2.size); have hP3 := (hb2s.out w3 hb3').2)
    | (refine wpList_unguard (by rfl) (wpList_load_row rfl 28 _ rfl (W.heap.size + 1) rfl _ _ (0, 0) _ (rowIs_block hP3) Tryd.underlying28 rfl (by rw [infoPos', rowArr_size]) ?_))
    | (refine wpList_unguard (by rfl) (wpList_load_row rfl 28 _ rfl (W.heap.size + 1) rfl _ _ (0, 0) _ (rowIs_block hP2) Tryd.underlying28 rfl (by rw [infoPos', rowArr_size]) ?_))
    | (go_at_call 10; refine (bdRight_true bd hR (laidP W bd)).mono ?_; rintro e w2 ⟨rfl, hb2⟩; have hP2 := (hb2s.out w2 hb2).2)
    | (refine wpList_load_row rfl 23 _ rfl W.heap.size rfl _ _ (0, 0) _ (rowIs_block h1) Tryd.underlying23 rfl (by rw [info64, rowArr_size]) ?_)
    | (refine wpList_load_row rfl 23 _ rfl W.heap.size rfl _ _ (0, 0) _ (rowIs_block hr1) Tryd.underlying23 rfl (by rw [info64, rowArr_size]) ?_)
    | (refine wpList_store_row rfl 28 _ _ rfl (W.heap.size + 1) _ rfl rfl _ _ (rowIs_block h2) (by rw [infoPos', rowArr_size]) (by rw [rowArr_size, rowArr_size]) (intRow_one _ _) ?_; change wpList _ _ _ _ _ (laidP W bd)))
  go_ret
  exact ⟨rfl, hb.out.trans (hb6'.mono (by rw [hs.out]; omega))⟩
end Go.Proofs.YtnlicbhelnocpaaDoor.Suffices

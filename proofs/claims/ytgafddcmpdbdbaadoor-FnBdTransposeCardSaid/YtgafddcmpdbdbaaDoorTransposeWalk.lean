/- The walk of the law FnBdTranspose at a board of pieces. -/
import Derived.Test.YtgafddcmpdbdbaaDoorImplFlip
import Derived.Test.YtgafddcmpdbdbaaDoorOpenArr
import Derived.Deep.RegionHeld3
import Derived.Deep.MidRow
namespace Go.Proofs.YtgafddcmpdbdbaaDoor.Transposed
open Go.ChangeShapes Go.WideShapes Go.ChangeAt Go.RowKit Plain
set_option maxHeartbeats 4000000
set_option linter.unusedVariables false
set_option linter.unusedSimpArgs false

theorem rangeOf {w : World} {b : Nat} {f : Nat → Int} (h : w.rowIs b 23 64 (fun i => .int .i64 (f i))) : w.rangeAt b 0 (rowArr 64 fun i => .int .i64 (f i)).toList := by
  intro j v hv
  rw [Array.getElem?_toList] at hv
  rcases Nat.lt_or_ge j 64 with hj | hj
  · rw [rowArr_get 64 _ j hj] at hv
    rw [← Option.some.inj hv, Nat.zero_add]
    exact h.cell hj
  · rw [Array.getElem?_eq_none (by rw [rowArr_size]; exact hj)] at hv
    cases hv
theorem range_below {B : Nat} {w w' : World} {b : Nat} {L : List Value} (h : w.rangeAt b 0 L) (hb : Below B w w') (hB : b < B) : w'.rangeAt b 0 L := fun j v hv => by
  have := h j v hv
  rw [World.cell?] at this ⊢
  rw [hb.block b hB]
  exact this
/-- What the loads of three boards ask of the world. -/
theorem keepS {W w w' : World} {a b c : Nat} {L0 L1 L2 : List Value} (h : w.rangeAt a 0 L0 ∧ w.rangeAt b 0 L1 ∧ w.rangeAt c 0 L2 ∧ Below W.heap.size W w ∧ a < w.heap.size ∧ b < w.heap.size ∧ c < w.heap.size) (hb : Below w.heap.size w w') :
    w'.rangeAt a 0 L0 ∧ w'.rangeAt b 0 L1 ∧ w'.rangeAt c 0 L2 ∧ Below W.heap.size W w' ∧ a < w'.heap.size ∧ b < w'.heap.size ∧ c < w'.heap.size := by
  obtain ⟨h0, h1, h2, h3, l0, l1, l2⟩ := h
  have := hb.size
  exact ⟨range_below h0 hb l0, range_below h1 hb l1, range_below h2 hb l2, h3.trans (hb.mono h3.size), by omega, by omega, by omega⟩
theorem newRow (w : World) (R : Nat → Int) : Below w.heap.size w ((w.alloc (.cells zero64 23)).setRow w.heap.size (rowArr 64 fun i => .int .i64 (R i))) ∧
    ((w.alloc (.cells zero64 23)).setRow w.heap.size (rowArr 64 fun i => .int .i64 (R i))).rowIs w.heap.size 23 64 (fun i => .int .i64 (R i)) ∧ w.heap.size + 1 ≤ ((w.alloc (.cells zero64 23)).setRow w.heap.size (rowArr 64 fun i => .int .i64 (R i))).heap.size := by
  have hz : (w.alloc (.cells zero64 23)).rowIs w.heap.size 23 64 (fun _ => .int .i64 0) := by rw [zeroRow]; exact rowIs_new w _ _ _
  have hb : Below w.heap.size w (w.alloc (.cells zero64 23)) := (Below.refl _ _).alloc (Nat.le_refl _) _
  have h := rowIs_setRow hz fun i => .int .i64 (R i)
  exact ⟨below_setRow hb (Nat.le_refl _) _, h, h.lt⟩
theorem trTo_way : ∀ i, i < 64 → trTo i < 64 ∧ trTo (trTo i) = i ∧ atOf (0 * ((i % 8 : Nat) : Int) + (-1) * ((i / 8 : Nat) : Int) + 7) ((-1) * ((i % 8 : Nat) : Int) + 0 * ((i / 8 : Nat) : Int) + 7) = (trTo i : Int) := fun i hi => by
  refine ⟨trTo_lt hi, trTo_two hi, ?_⟩
  unfold atOf trTo
  rw [if_pos (by omega)]
  omega
set_option maxRecDepth 100000 in
theorem walk_right (bd : Nat → Int) (hR : Right bd) (W : World) (hT : TabsP W) :
    Calls Tryd.prog 4 #[intRow 64 bd] W fun e w' => e = .returned (.bool true) ∧ Below W.heap.size W w' := by
  have hz : ∀ v : World, (v.alloc (.cells zero64 23)).rowIs v.heap.size 23 64 (fun _ => .int .i64 0) := fun v => by rw [zeroRow]; exact rowIs_new v _ _ _
  have h1 := rowIs_new W 23 64 (fun i => .int .i64 (bd i))
  have hb1 : Below W.heap.size W (W.alloc (.cells (rowArr 64 fun i => .int .i64 (bd i)) 23)) := (Below.refl _ _).alloc (Nat.le_refl _) _
  have hT1 := hT.below hb1
  have hs1 : (W.alloc (.cells (rowArr 64 fun i => .int .i64 (bd i)) 23)).heap.size = W.heap.size + 1 := by simp
  have hR2 : Right fun j => bd (trTo j) := fun i hi => hR _ (trTo_lt hi)
  have hb1 := Lib.hid hb1
  clear hT
  unfold intRow
  go_enter Tryd.func4, Tryd.ntmps4
  generalize hW1 : W.alloc (.cells (rowArr 64 fun i => .int .i64 (bd i)) 23) = w1 at *
  go_wp2_with (first
    | (go_at_call 12; refine (bdRight_true bd hR w1).mono ?_; rintro e w2 ⟨rfl, hb2⟩; have h2 := rowIs_below h1 hb2 (by omega); have hT2 := hT1.below hb2)
    | (go_at_call 13; refine (implTranspose_any bd hR w2 hT2).mono ?_; rintro e w3 ⟨rfl, hb3⟩; have hs2 := hb2.size; have h3 := rowIs_below h2 hb3 (by omega); have hT3 := hT2.below hb3; have hz3 := hz w3; have hs3 := hb3.size)
    | (refine wpList_store_row rfl 23 _ _ rfl w3.heap.size _ rfl rfl _ _ (rowIs_block hz3) (by rw [info64, rowArr_size]) (by rw [rowArr_size, rowArr_size]) (intRow_one _ _) ?_; obtain ⟨hb4, hr4, hs4⟩ := newRow w3 (fun j => bd (trTo j)); change wpList _ _ _ _ _ ((w3.alloc (.cells zero64 23)).setRow w3.heap.size (rowArr 64 fun i => .int .i64 (bd (trTo i)))); generalize ((w3.alloc (.cells zero64 23)).setRow w3.heap.size (rowArr 64 fun i => .int .i64 (bd (trTo i)))) = w4 at *; have h4 := rowIs_below h3 hb4 (by omega); have hT4 := hT3.below hb4)
    | (refine wpList_load_row rfl 23 _ rfl w3.heap.size rfl _ _ (0, 0) _ (rowIs_block hr4) Tryd.underlying23 rfl (by rw [info64, rowArr_size]) ?_)
    | (go_at_call 13; refine (implTranspose_any (fun j => bd (trTo j)) hR2 w4 hT4).mono ?_; rintro e w5 ⟨rfl, hb5⟩; have hs5 := hb5.size; have h5 := rowIs_below h4 hb5 (by omega); have hr5 := rowIs_below hr4 hb5 (by omega); have hT5 := hT4.below hb5; have hz5 := hz w5)
    | (refine wpList_store_row rfl 23 _ _ rfl w5.heap.size _ rfl rfl _ _ (rowIs_block hz5) (by rw [info64, rowArr_size]) (by rw [rowArr_size, rowArr_size]) (intRow_one _ _) ?_; obtain ⟨hb6, hrr6, hs6⟩ := newRow w5 (fun j => bd (trTo (trTo j))); change wpList _ _ _ _ _ ((w5.alloc (.cells zero64 23)).setRow w5.heap.size (rowArr 64 fun i => .int .i64 (bd (trTo (trTo i))))); generalize ((w5.alloc (.cells zero64 23)).setRow w5.heap.size (rowArr 64 fun i => .int .i64 (bd (trTo (trTo i))))) = w6 at *; have h6 := rowIs_below h5 hb6 (by omega); have hr6 := rowIs_below hr5 hb6 (by omega))
    | (refine wpList_load_row rfl 23 _ rfl W.heap.size rfl _ _ (0, 0) _ (rowIs_block h2) Tryd.underlying23 rfl (by rw [info64, rowArr_size]) ?_)
    | (refine wpList_load_row rfl 23 _ rfl W.heap.size rfl _ _ (0, 0) _ (rowIs_block h1) Tryd.underlying23 rfl (by rw [info64, rowArr_size]) ?_))
  have hw6 : w6.rangeAt W.heap.size 0 (rowArr 64 fun i => .int .i64 (bd i)).toList ∧ w6.rangeAt w3.heap.size 0 (rowArr 64 fun i => .int .i64 (bd (trTo i))).toList ∧ w6.rangeAt w5.heap.size 0 (rowArr 64 fun i => .int .i64 (bd (trTo (trTo i)))).toList ∧ Below W.heap.size W w6 ∧ W.heap.size < w6.heap.size ∧ w3.heap.size < w6.heap.size ∧ w5.heap.size < w6.heap.size :=
    ⟨rangeOf h6, rangeOf hr6, rangeOf hrr6, hb1.out.trans ((hb2.trans ((hb3.trans ((hb4.trans ((hb5.trans (hb6.mono hb5.size)).mono hb4.size)).mono hb3.size)).mono hb2.size)).mono hb1.out.size), h6.lt, hr6.lt, hrr6.lt⟩
  have hi64 : ∀ f : Nat → Int, (Tryd.prog.info? 23).map (·.size) = some (rowArr 64 fun i => .int .i64 (f i)).toList.length := fun f => by rw [info64, Array.length_toList, rowArr_size]
  have hi0 : (Tryd.prog.info? 23).map (·.size) = some (rowArr 64 fun i => .int .i64 (bd i)).toList.length := hi64 bd
  have hi1 : (Tryd.prog.info? 23).map (·.size) = some (rowArr 64 fun i => .int .i64 (bd (trTo i))).toList.length := hi64 fun i => bd (trTo i)
  have hi2 : (Tryd.prog.info? 23).map (·.size) = some (rowArr 64 fun i => .int .i64 (bd (trTo (trTo i)))).toList.length := hi64 fun i => bd (trTo (trTo i))
  clear hi64
  have hu64 := Tryd.underlying23
  have hq1 : ∀ w : World, (Op.equalIn 10000 23 (.agg (rowArr 64 fun i => .int .i64 (bd (trTo i)))) (.agg (rowArr 64 fun i => .int .i64 (bd (trTo i))))).run Tryd.prog w = .ok true w := fun w => by
    rw [run_equalIn_ints 9998 (fun j => bd (trTo j)) (fun j => bd (trTo j)) w, eqInts_true fun _ _ => rfl]
  have hq2 : ∀ w : World, (Op.equalIn 10000 23 (.agg (rowArr 64 fun i => .int .i64 (bd (trTo (trTo i))))) (.agg (rowArr 64 fun i => .int .i64 (bd i)))).run Tryd.prog w = .ok true w := fun w => by
    rw [run_equalIn_ints 9998 (fun j => bd (trTo (trTo j))) bd w, eqInts_true fun i hi => by rw [trTo_two hi]]
  have hg : Tryd.prog.eqGuardType Tryd.prog.depth 23 = false := by kernel_rfl
  have hm : ∀ v, Calls Tryd.prog 14 #[.agg (rowArr 64 fun i => .int .i64 (bd i)), .agg #[.int .i64 0, .int .i64 (-1), .int .i64 7, .int .i64 (-1), .int .i64 0, .int .i64 7]] v fun e w' => e = .returned (.agg (rowArr 64 fun i => .int .i64 (bd (trTo i)))) ∧ Below v.heap.size v w' :=
    fun v => bdMoved_any bd 0 (-1) 7 (-1) 0 7 (by omega) (by omega) (by omega) (by omega) (by omega) (by omega) trTo trTo_way v
  clear h1 h2 h3 h4 h5 h6 hr4 hr5 hr6 hrr6 hz hz3 hz5 hT1 hT2 hT3 hT4 hT5 hb1 hb2 hb3 hb4 hb5 hb6 hR hR2
  refine wp_region_held_drew (S := fun w => w.rangeAt W.heap.size 0 (rowArr 64 fun i => .int .i64 (bd i)).toList ∧ w.rangeAt w3.heap.size 0 (rowArr 64 fun i => .int .i64 (bd (trTo i))).toList ∧ w.rangeAt w5.heap.size 0 (rowArr 64 fun i => .int .i64 (bd (trTo (trTo i)))).toList ∧ Below W.heap.size W w ∧ W.heap.size < w.heap.size ∧ w3.heap.size < w.heap.size ∧ w5.heap.size < w.heap.size) (by kernel_rfl) ?_ (fun hHeld => ?_)
  · exact keepS hw6 (Below.refl _ _).drew
  refine wpAnyH_take (i := 0) (v := ?_) rfl (by kernel_rfl) (by kernel_rfl) (by kernel_rfl) (fun _ _ _ h => h) (Or.inl ⟨by rfl, ?_⟩) (by assumption) ?_
  rotate_left
  · (intro w hSw); go_simp; try with_reducible rfl
  try simp only [List.getElem_toArray, List.getElem_cons_succ, List.getElem_cons_zero, Act.put, List.setIfInBounds_toArray, List.set_cons_zero, List.set_cons_succ]
  refine wpAnyH_take (i := 1) (v := ?_) rfl (by kernel_rfl) (by kernel_rfl) (by kernel_rfl) (fun _ _ _ h => h) (Or.inl ⟨by rfl, ?_⟩) (by assumption) ?_
  rotate_left
  · (intro w hSw); go_simp; try with_reducible rfl
  try simp only [List.getElem_toArray, List.getElem_cons_succ, List.getElem_cons_zero, Act.put, List.setIfInBounds_toArray, List.set_cons_zero, List.set_cons_succ]
  refine wpAnyH_take (i := 2) (v := ?_) rfl (by kernel_rfl) (by kernel_rfl) (by kernel_rfl) (fun _ _ _ h => h) (Or.inl ⟨by rfl, ?_⟩) (by assumption) ?_
  rotate_left
  · (intro w hSw); go_simp; try with_reducible rfl
  try simp only [List.getElem_toArray, List.getElem_cons_succ, List.getElem_cons_zero, Act.put, List.setIfInBounds_toArray, List.set_cons_zero, List.set_cons_succ]
  refine wpAnyH_take (i := 3) (v := ?_) rfl (by kernel_rfl) (by kernel_rfl) (by kernel_rfl) (fun _ _ _ h => h) (Or.inl ⟨by rfl, ?_⟩) (by assumption) ?_
  rotate_left
  · (intro w hSw); go_simp; try with_reducible rfl
  try simp only [List.getElem_toArray, List.getElem_cons_succ, List.getElem_cons_zero, Act.put, List.setIfInBounds_toArray, List.set_cons_zero, List.set_cons_succ]
  refine wpAnyH_take (i := 4) (v := ?_) rfl (by kernel_rfl) (by kernel_rfl) (by kernel_rfl) (fun _ _ _ h => h) (Or.inl ⟨by rfl, ?_⟩) (by assumption) ?_
  rotate_left
  · (intro w hSw); go_simp; try with_reducible rfl
  try simp only [List.getElem_toArray, List.getElem_cons_succ, List.getElem_cons_zero, Act.put, List.setIfInBounds_toArray, List.set_cons_zero, List.set_cons_succ]
  refine wpAnyH_take (i := 5) rfl (by kernel_rfl) (by kernel_rfl) (by kernel_rfl) (fun _ _ _ h => h) (yieldsIf_load_mid (by rfl) _ _ rfl _ _ rfl _ _ (fun w h => h.2.1) Tryd.underlying23 rfl hi1) (by assumption) ?_
  try simp only [List.getElem_toArray, List.getElem_cons_succ, List.getElem_cons_zero, Act.put, List.setIfInBounds_toArray, List.set_cons_zero, List.set_cons_succ]
  refine wpAnyH_take (i := 6) rfl (by kernel_rfl) (by kernel_rfl) (by kernel_rfl) (fun _ _ _ h => h) (yieldsIf_load_mid (by rfl) _ _ rfl _ _ rfl _ _ (fun w h => h.1) Tryd.underlying23 rfl hi0) (by assumption) ?_
  try simp only [List.getElem_toArray, List.getElem_cons_succ, List.getElem_cons_zero, Act.put, List.setIfInBounds_toArray, List.set_cons_zero, List.set_cons_succ]
  refine wpAnyH_take (i := 7) (v := ?_) rfl (by kernel_rfl) (by kernel_rfl) (by kernel_rfl) (fun _ _ _ h => h) (Or.inl ⟨by rfl, ?_⟩) (by assumption) ?_
  rotate_left
  · (intro w hSw); go_simp; try with_reducible rfl
  try simp only [List.getElem_toArray, List.getElem_cons_succ, List.getElem_cons_zero, Act.put, List.setIfInBounds_toArray, List.set_cons_zero, List.set_cons_succ]
  refine wpAnyH_ready (rs := [8]) (by kernel_rfl) (by simp) ?_
  refine AllReadyH.cons rfl (fun K hK => ?_) AllReadyH.nil
  go_simp
  refine (hm _).mono ?_
  rintro e w7 ⟨rfl, hb7⟩
  refine hK.out _ _ (keepS hHeld hb7) (fun hHeld => ?_)
  clear hK K
  try simp only [List.getElem_toArray, List.getElem_cons_succ, List.getElem_cons_zero, Act.put, List.setIfInBounds_toArray, List.set_cons_zero, List.set_cons_succ]
  refine wpAnyH_take (i := 9) (v := ?_) rfl (by kernel_rfl) (by kernel_rfl) (by kernel_rfl) (fun _ _ _ h => h) (Or.inl ⟨by rfl, ?_⟩) (by assumption) ?_
  rotate_left
  · (intro w hSw); go_simp; try with_reducible rfl
  try simp only [List.getElem_toArray, List.getElem_cons_succ, List.getElem_cons_zero, Act.put, List.setIfInBounds_toArray, List.set_cons_zero, List.set_cons_succ]
  refine wpAnyH_take (i := 10) (v := ?_) rfl (by kernel_rfl) (by kernel_rfl) (by kernel_rfl) (fun _ _ _ h => h) (Or.inl ⟨by rfl, ?_⟩) (by assumption) ?_
  rotate_left
  · (intro w hSw); go_simp; try with_reducible rfl
  try simp only [List.getElem_toArray, List.getElem_cons_succ, List.getElem_cons_zero, Act.put, List.setIfInBounds_toArray, List.set_cons_zero, List.set_cons_succ]
  refine wpAnyH_take (i := 11) (v := ?_) rfl (by kernel_rfl) (by kernel_rfl) (by kernel_rfl) (fun _ _ _ h => h) (Or.inl ⟨by rfl, ?_⟩) (by assumption) ?_
  rotate_left
  · (intro w hSw); go_simp; try with_reducible rfl
  try simp only [List.getElem_toArray, List.getElem_cons_succ, List.getElem_cons_zero, Act.put, List.setIfInBounds_toArray, List.set_cons_zero, List.set_cons_succ]
  refine wpAnyH_take (i := 12) rfl (by kernel_rfl) (by kernel_rfl) (by kernel_rfl) (fun _ _ _ h => h) (yieldsIf_load_mid (by rfl) _ _ rfl _ _ rfl _ _ (fun w h => h.2.2.1) Tryd.underlying23 rfl hi2) (by assumption) ?_
  try simp only [List.getElem_toArray, List.getElem_cons_succ, List.getElem_cons_zero, Act.put, List.setIfInBounds_toArray, List.set_cons_zero, List.set_cons_succ]
  refine wpAnyH_take (i := 13) rfl (by kernel_rfl) (by kernel_rfl) (by kernel_rfl) (fun _ _ _ h => h) (yieldsIf_load_mid (by rfl) _ _ rfl _ _ rfl _ _ (fun w h => h.1) Tryd.underlying23 rfl hi0) (by assumption) ?_
  try simp only [List.getElem_toArray, List.getElem_cons_succ, List.getElem_cons_zero, Act.put, List.setIfInBounds_toArray, List.set_cons_zero, List.set_cons_succ]
  refine wpAnyH_take (i := 14) (v := ?_) rfl (by kernel_rfl) (by kernel_rfl) (by kernel_rfl) (fun _ _ _ h => h) (Or.inl ⟨by rfl, ?_⟩) (by assumption) ?_
  rotate_left
  · (intro w hSw); go_simp; try with_reducible rfl
  try simp only [List.getElem_toArray, List.getElem_cons_succ, List.getElem_cons_zero, Act.put, List.setIfInBounds_toArray, List.set_cons_zero, List.set_cons_succ]
  refine wpAnyH_take (i := 15) (v := ?_) rfl (by kernel_rfl) (by kernel_rfl) (by kernel_rfl) (fun _ _ _ h => h) (Or.inl ⟨by rfl, ?_⟩) (by assumption) ?_
  rotate_left
  · (intro w hSw); go_simp; try with_reducible rfl
  try simp only [List.getElem_toArray, List.getElem_cons_succ, List.getElem_cons_zero, Act.put, List.setIfInBounds_toArray, List.set_cons_zero, List.set_cons_succ]
  refine wpAnyH_take (i := 16) (v := ?_) rfl (by kernel_rfl) (by kernel_rfl) (by kernel_rfl) (fun _ _ _ h => h) (Or.inl ⟨by rfl, ?_⟩) (by assumption) ?_
  rotate_left
  · (intro w hSw); go_simp; try with_reducible rfl
  try simp only [List.getElem_toArray, List.getElem_cons_succ, List.getElem_cons_zero, Act.put, List.setIfInBounds_toArray, List.set_cons_zero, List.set_cons_succ]
  refine wpAnyH_done (by kernel_rfl) ?_ _
  go_wp2
  go_ret
  exact ⟨rfl, hHeld.2.2.2.1⟩
end Go.Proofs.YtgafddcmpdbdbaaDoor.Transposed

/- For every list of bytes: the law FnBdWrong (bytes of another number than 96 are refused) returns true. The tied card: allPieces holds what the program's text lays in it. -/
import Derived.Test.YtnlicbhelnocpaaDoorBoardOf
import Derived.Test.YtnlicbhelnocpaaDoorKeep
import Derived.OwnWalk
import Derived.Test.YtnlicbhelnocpaaDoorLaid
namespace Go.Proofs.YtnlicbhelnocpaaDoor.Wrong
open Go.ChangeShapes Go.WideShapes Go.ChangeAt Go.RowKit Plain
set_option maxHeartbeats 4000000
set_option linter.unusedVariables false
set_option linter.unusedSimpArgs false

theorem infoU8 : (Tryd.prog.info? 5).map (fun i => (i.zero, i.size, i.bytes)) = some (some (.int .u8 0), 1, 1) := by kernel_rfl
theorem made_zero (j : Nat) (hj : j < 96) : (madeCells (Value.cells (.int .u8 0)) (96 * 1)).toList[j]? = some (.int .u8 0) := by
  simp [madeCells, Value.cells, hj, Nat.mod_one]
set_option maxRecDepth 100000 in
theorem walk (a : Option Addr) (n c : Nat) (hn : n ≤ 9223372036854775807) (W : World) (hT : TabsP W) :
    Calls Tryd.prog 3 #[.slice a n c] W fun e w' => e = .returned (.bool true) ∧ Below W.heap.size W w' := by
  obtain ⟨i0, hi, hz0, hz1, hz2⟩ := info_parts infoU8
  by_cases h1 : 2147483647 < n
  · have hd : decide ((2147483647 : Int) < n) = true := by simp; omega
    go_enter Tryd.func3, Tryd.ntmps3
    go_wp2
    all_goals (go_ret; exact ⟨rfl, Below.refl _ _⟩)
  have hd : decide ((2147483647 : Int) < n) = false := by simp; omega
  have hz : ∀ v : World, (v.alloc (.cells zero64 23)).rowIs v.heap.size 23 64 (fun _ => .int .i64 0) := fun v => by rw [zeroRow]; exact rowIs_new v _ _ _
  have hT := Lib.hid hT
  have hn0 : n ≤ 9223372036854775807 := hn
  by_cases h2 : n = 96
  · subst h2
    go_enter Tryd.func3, Tryd.ntmps3
    go_wp2_with (first
      | (go_at_call 9; refine (boardOf_zero W.heap.size w1 hb0 hz1 hT1).mono ?_; rintro e w2 ⟨⟨v2, rfl⟩, hb2⟩; have hz2' := hz w2)
      | (at_make; refine wpList_make_full _ rfl _ _ _ rfl W.heap.size 5 i0 (.int .u8 0) 1 Tryd.underlying22 hi hz0 hz1 .i64 .i64 (96 : Int) (96 : Int) 96 rfl rfl rfl rfl (by rw [hz2]; omega) (by unfold maxLen; omega) (Nat.le_refl _) ?_; intro w1 hown hg1; have hb1 : Below W.heap.size W w1 := (Below.refl _ _).grown hg1 (Nat.le_refl _) (by intro r hr; cases hr); have hT1 := hT.out.below hb1; have hb0 := (hown.lt _ rfl).2; have hz1 : ∀ j, j < 96 → w1.cell? ⟨W.heap.size, j, none⟩ = some (.int .u8 0) := (fun j hj => by rw [hown.cellAt j (by omega)]; exact made_zero j hj); clear hown)
      | (refine wpList_store_row rfl 23 _ _ rfl w2.heap.size _ rfl rfl _ _ (rowIs_block hz2') (by rw [info64, rowArr_size]) (by rw [rowArr_size, rowArr_size]) (intRow_one _ _) ?_))
    go_ret
    exact ⟨rfl, below_setRow ((hb1.trans (hb2.mono hb1.size)).alloc (by have := hb1.size; have := hb2.size; omega) _) (by have := hb1.size; have := hb2.size; omega) _⟩
  have hne : ((n : Int) == 96) = false := by simp; omega
  by_cases h3 : 300 < n
  · have hd2 : decide ((300 : Int) < n) = true := by simp; omega
    go_enter Tryd.func3, Tryd.ntmps3
    go_wp2_with (first
      | (go_at_call 9; refine (boardOf_zero W.heap.size w1 hb0 hz1 hT1).mono ?_; rintro e w2 ⟨⟨v2, rfl⟩, hb2⟩; have hz2' := hz w2)
      | (at_make; refine wpList_make_full _ rfl _ _ _ rfl W.heap.size 5 i0 (.int .u8 0) 1 Tryd.underlying22 hi hz0 hz1 .i64 .i64 (96 : Int) (96 : Int) 96 rfl rfl rfl rfl (by rw [hz2]; omega) (by unfold maxLen; omega) (Nat.le_refl _) ?_; intro w1 hown hg1; have hb1 : Below W.heap.size W w1 := (Below.refl _ _).grown hg1 (Nat.le_refl _) (by intro r hr; cases hr); have hT1 := hT.out.below hb1; have hb0 := (hown.lt _ rfl).2; have hz1 : ∀ j, j < 96 → w1.cell? ⟨W.heap.size, j, none⟩ = some (.int .u8 0) := (fun j hj => by rw [hown.cellAt j (by omega)]; exact made_zero j hj); clear hown)
      | (refine wpList_store_row rfl 23 _ _ rfl w2.heap.size _ rfl rfl _ _ (rowIs_block hz2') (by rw [info64, rowArr_size]) (by rw [rowArr_size, rowArr_size]) (intRow_one _ _) ?_))
    go_ret
    exact ⟨rfl, below_setRow ((hb1.trans (hb2.mono hb1.size)).alloc (by have := hb1.size; have := hb2.size; omega) _) (by have := hb1.size; have := hb2.size; omega) _⟩
  have hne2 : ((n : Int) != 96) = true := by simp; omega
  have hd2 : decide ((300 : Int) < n) = false := by simp; omega
  clear h1 h2 h3
  go_enter Tryd.func3, Tryd.ntmps3
  go_wp2_with (first
    | (go_at_call 9; refine (boardOf_wrong a n c hne2 w4).mono ?_; rintro e w5 ⟨⟨v5, rfl⟩, hb5⟩; have hz5 := hz w5)
    | (refine wpList_store_row rfl 23 _ _ rfl w5.heap.size _ rfl rfl _ _ (rowIs_block hz5) (by rw [info64, rowArr_size]) (by rw [rowArr_size, rowArr_size]) (intRow_one _ _) ?_)
    | (refine wpList_store_row rfl 23 _ _ rfl w2.heap.size _ rfl rfl _ _ (rowIs_block hz2') (by rw [info64, rowArr_size]) (by rw [rowArr_size, rowArr_size]) (intRow_one _ _) ?_; change wpList _ _ _ _ _ ((w2.alloc (.cells zero64 23)).setRow w2.heap.size (rowArr 64 fun i => .int .i64 (v2 i))); have hb4 : Below W.heap.size W ((w2.alloc (.cells zero64 23)).setRow w2.heap.size (rowArr 64 fun i => .int .i64 (v2 i))) := (below_setRow ((hb1.trans (hb2.mono hb1.size)).alloc (by have := hb1.size; have := hb2.size; omega) _) (by have := hb1.size; have := hb2.size; omega) _); generalize ((w2.alloc (.cells zero64 23)).setRow w2.heap.size (rowArr 64 fun i => .int .i64 (v2 i))) = w4 at *)
    | (go_at_call 9; refine (boardOf_zero W.heap.size w1 hb0 hz1 hT1).mono ?_; rintro e w2 ⟨⟨v2, rfl⟩, hb2⟩; have hz2' := hz w2)
    | (at_make; refine wpList_make_full _ rfl _ _ _ rfl W.heap.size 5 i0 (.int .u8 0) 1 Tryd.underlying22 hi hz0 hz1 .i64 .i64 (96 : Int) (96 : Int) 96 rfl rfl rfl rfl (by rw [hz2]; omega) (by unfold maxLen; omega) (Nat.le_refl _) ?_; intro w1 hown hg1; have hb1 : Below W.heap.size W w1 := (Below.refl _ _).grown hg1 (Nat.le_refl _) (by intro r hr; cases hr); have hT1 := hT.out.below hb1; have hb0 := (hown.lt _ rfl).2; have hz1 : ∀ j, j < 96 → w1.cell? ⟨W.heap.size, j, none⟩ = some (.int .u8 0) := (fun j hj => by rw [hown.cellAt j (by omega)]; exact made_zero j hj); clear hown))
  go_ret
  exact ⟨rfl, below_setRow ((hb4.trans (hb5.mono hb4.size)).alloc (by have := hb4.size; have := hb5.size; omega) _) (by have := hb4.size; have := hb5.size; omega) _⟩
end Go.Proofs.YtnlicbhelnocpaaDoor.Wrong

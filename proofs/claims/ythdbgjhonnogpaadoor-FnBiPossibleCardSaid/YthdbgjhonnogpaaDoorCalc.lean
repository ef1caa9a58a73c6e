/- The board's sums: the contract of calcConvienceBBs without a move. -/
import Derived.Test.YthdbgjhonnogpaaDoorBoard
namespace Go.Proofs.YthdbgjhonnogpaaDoor
open Go.ChangeShapes Go.WideShapes Go.ChangeAt Go.RowKit Plain
set_option maxHeartbeats 4000000
set_option linter.unusedVariables false
set_option linter.unusedSimpArgs false
attribute [local go_sem] bv_and bv_or bv_xor bv_sub bv_andc bv_orc bv_not

def whiteOf (bb : Nat → BitVec 64) : BitVec 64 := bb 0 ||| bb 1 ||| bb 2 ||| bb 3 ||| bb 4 ||| bb 5
def blackOf (bb : Nat → BitVec 64) : BitVec 64 := bb 6 ||| bb 7 ||| bb 8 ||| bb 9 ||| bb 10 ||| bb 11
def fullOf (bb : Nat → BitVec 64) (j : Nat) : BitVec 64 := if j < 12 then bb j else if j = 12 then whiteOf bb else if j = 13 then blackOf bb else ~~~(whiteOf bb ||| blackOf bb)
/-- The last square below n for which f holds, -1 without one. -/
def lastOf (f : Nat → Bool) : Nat → Int
  | 0 => -1
  | n + 1 => if f n then (n : Int) else lastOf f n
def wkOf (bb : Nat → BitVec 64) (n : Nat) : Int := lastOf (fun s => occ (bb 0).toNat s) n
def bkOf (bb : Nat → BitVec 64) (n : Nat) : Int := lastOf (fun s => !occ (bb 0).toNat s && occ (bb 6).toNat s) n
def calcRow (bb : Nat → BitVec 64) (n : Nat) : Nat → Value := cellB (fullOf bb) (wkOf bb n) (bkOf bb n)

theorem calcRow_low {bb : Nat → BitVec 64} {n j : Nat} (h : j < 12) : calcRow bb n j = .int .u64 (tn (bb j)) := by
  unfold calcRow cellB fullOf; rw [if_pos (by omega), if_pos h]
theorem calcRow_start {f : Nat → Value} {bb : Nat → BitVec 64} (hf : ∀ j, j < 12 → f j = .int .u64 (tn (bb j))) : ∀ j, j < 17 →
    (if j = 16 then Value.int .i8 (-1) else if j = 15 then Value.int .i8 (-1) else if j = 14 then Value.int .u64 (tn (~~~(whiteOf bb ||| blackOf bb))) else if j = 13 then Value.int .u64 (tn (blackOf bb)) else if j = 12 then Value.int .u64 (tn (whiteOf bb)) else f j) = calcRow bb 0 j := by
  intro j hj
  by_cases h : j < 12
  · rw [calcRow_low h, ← hf j h, if_neg (by omega), if_neg (by omega), if_neg (by omega), if_neg (by omega), if_neg (by omega)]
  · have : j = 12 ∨ j = 13 ∨ j = 14 ∨ j = 15 ∨ j = 16 := by omega
    rcases this with rfl | rfl | rfl | rfl | rfl <;> rfl
theorem calcRow_other {bb : Nat → BitVec 64} {n m : Nat} {j : Nat} (h : j < 15) : calcRow bb n j = calcRow bb m j := by
  unfold calcRow cellB; rw [if_pos h, if_pos h]
theorem calcRow_white {bb : Nat → BitVec 64} {k : Nat} (h0 : occ (bb 0).toNat k = true) : ∀ j, j < 17 → (if j = 15 then Value.int .i8 (k : Int) else calcRow bb k j) = calcRow bb (k + 1) j := by
  intro j hj
  by_cases h : j < 15
  · rw [if_neg (by omega)]; exact calcRow_other h
  · have : j = 15 ∨ j = 16 := by omega
    rcases this with rfl | rfl <;> simp [calcRow, cellB, wkOf, bkOf, lastOf, h0]
theorem calcRow_black {bb : Nat → BitVec 64} {k : Nat} (h0 : occ (bb 0).toNat k = false) (h6 : occ (bb 6).toNat k = true) : ∀ j, j < 17 → (if j = 16 then Value.int .i8 (k : Int) else calcRow bb k j) = calcRow bb (k + 1) j := by
  intro j hj
  by_cases h : j < 15
  · rw [if_neg (by omega)]; exact calcRow_other h
  · have : j = 15 ∨ j = 16 := by omega
    rcases this with rfl | rfl <;> simp [calcRow, cellB, wkOf, bkOf, lastOf, h0, h6]
theorem calcRow_none {bb : Nat → BitVec 64} {k : Nat} (h0 : occ (bb 0).toNat k = false) (h6 : occ (bb 6).toNat k = false) : ∀ j, j < 17 → calcRow bb k j = calcRow bb (k + 1) j := by
  intro j hj
  by_cases h : j < 15
  · exact calcRow_other h
  · have : j = 15 ∨ j = 16 := by omega
    rcases this with rfl | rfl <;> simp [calcRow, cellB, wkOf, bkOf, lastOf, h0, h6]
theorem grown_setCell {w wr : World} {g o : Nat} (h : w.grownBy wr (some g)) (v : Value) (x : Option Nat) : w.grownBy (wr.setCell ⟨g, o, x⟩ v) (some g) :=
  ⟨h.os, h.tape, h.output, by have := h.size; simpa [World.setCell] using this, fun k hk hne => by
    have : k ≠ g := fun e => hne (by rw [e])
    rw [← h.block k hk hne]
    simp [World.setCell, Array.getElem?_modify, Ne.symm this]⟩
set_option maxRecDepth 100000 in
theorem calc_any (g : Nat) (f : Nat → Value) (bb : Nat → BitVec 64) (w : World) (hrow : w.rowIs g tBoard 17 f) (hf : ∀ j, j < 12 → f j = .int .u64 (tn (bb j))) :
    Calls Tryd.prog 61 #[.pointer (some ⟨g, 0, none⟩), .pointer none] w fun e w' => e = .returned (.tuple #[]) ∧ w'.rowIs g tBoard 17 (calcRow bb 64) ∧ w.grownBy w' (some g) := by
  have hc : ∀ j, j < 12 → w.cell? ⟨g, j, none⟩ = some (.int .u64 (tn (bb j))) := fun j hj => by rw [hrow.cell (by omega), hf j hj]
  have c0 := hc 0 (by omega)
  have c1 := hc 1 (by omega)
  have c2 := hc 2 (by omega)
  have c3 := hc 3 (by omega)
  have c4 := hc 4 (by omega)
  have c5 := hc 5 (by omega)
  have c6 := hc 6 (by omega)
  have c7 := hc 7 (by omega)
  have c8 := hc 8 (by omega)
  have c9 := hc 9 (by omega)
  have c10 := hc 10 (by omega)
  have c11 := hc 11 (by omega)
  have c12 := hrow.cell (i := 12) (by omega)
  have c13 := hrow.cell (i := 13) (by omega)
  have c14 := hrow.cell (i := 14) (by omega)
  have c15 := hrow.cell (i := 15) (by omega)
  have c16 := hrow.cell (i := 16) (by omega)
  have hfz := hrow.frozen
  clear hc
  go_enter Tryd.func61, Tryd.ntmps61
  go_wp2
  go_quiet (fail)
  go_wp2
  go_quiet (fail)
  go_wp2
  go_loopw [92] (fun i wr => ∃ k : Nat, k ≤ 64 ∧ i = .int .i64 k ∧ wr.rowIs g tBoard 17 (calcRow bb k) ∧ w.grownBy wr (some g)) (fun i _ => 64 - (intOf i).toNat)
  case atStart =>
    refine ⟨0, by omega, rfl, ?_, ?_⟩
    · refine World.rowIs.congr (World.rowIs.set (World.rowIs.set (World.rowIs.set (World.rowIs.set (World.rowIs.set ?_ _ _) _ _) _ _) _ _) _ _) (calcRow_start hf)
      exact hrow
    · exact ⟨rfl, rfl, rfl, by simp [World.setCell], fun k _ hk => by
        have : k ≠ g := fun e => hk (by rw [e])
        simp [World.setCell, Array.getElem?_modify, this, Ne.symm this]⟩
  case round =>
    clear c0 c1 c2 c3 c4 c5 c6 c7 c8 c9 c10 c11 c12 c13 c14 c15 c16 hfz hrow
    obtain ⟨k, hk, rfl, hr, hg⟩ := hrel
    by_cases hlt : k < 64
    · have d0 := hr.cell (i := 0) (by omega)
      have d6 := hr.cell (i := 6) (by omega)
      have d15 := hr.cell (i := 15) (by omega)
      have d16 := hr.cell (i := 16) (by omega)
      have f15 := hr.frozen 15
      have f16 := hr.frozen 16
      rw [calcRow_low (by omega)] at d0 d6
      have s15 := hr.set 15 (.int .i8 (k : Int))
      have s16 := hr.set 16 (.int .i8 (k : Int))
      have g15 : w.grownBy (wr.setCell ⟨g, 15, none⟩ (.int .i8 (k : Int))) (some g) := grown_setCell hg _ _
      have g16 : w.grownBy (wr.setCell ⟨g, 16, none⟩ (.int .i8 (k : Int))) (some g) := grown_setCell hg _ _
      by_cases h0 : occ (bb 0).toNat k = true
      · have s15 := s15.congr (calcRow_white h0)
        clear hr s16 g16 d6
        go_wp2_with (go_at_call 69; refine (occupied_any _ _ (by omega) (by omega) _).mono ?_; rintro e w' ⟨rfl, rfl⟩)
        exact ⟨⟨k + 1, by omega, by go_num, s15, g15⟩, by simp [intOf]; omega⟩
      · have h0 : occ (bb 0).toNat k = false := by simpa using h0
        by_cases h6 : occ (bb 6).toNat k = true
        · have s16 := s16.congr (calcRow_black h0 h6)
          clear hr s15 g15
          go_wp2_with (go_at_call 69; refine (occupied_any _ _ (by omega) (by omega) _).mono ?_; rintro e w' ⟨rfl, rfl⟩)
          exact ⟨⟨k + 1, by omega, by go_num, s16, g16⟩, by simp [intOf]; omega⟩
        · have h6 : occ (bb 6).toNat k = false := by simpa using h6
          have hr := hr.congr (calcRow_none h0 h6)
          clear s15 g15 s16 g16
          go_wp2_with (go_at_call 69; refine (occupied_any _ _ (by omega) (by omega) _).mono ?_; rintro e w' ⟨rfl, rfl⟩)
          exact ⟨⟨k + 1, by omega, by go_num, hr, hg⟩, by simp [intOf]; omega⟩
    · obtain rfl : k = 64 := by omega
      go_wp2
      first | go_end0 | refine bodyPost_ret (results_none rfl _ _ _) rfl ?_
      exact ⟨rfl, hr, hg⟩
end Go.Proofs.YthdbgjhonnogpaaDoor

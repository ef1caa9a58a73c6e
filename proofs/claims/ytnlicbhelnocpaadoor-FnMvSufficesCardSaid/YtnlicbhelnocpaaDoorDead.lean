/- Whether the material suffices, by the reference: the contract of spec.Dead. -/
import Derived.Test.YtnlicbhelnocpaaDoorCount
namespace Go.Proofs.YtnlicbhelnocpaaDoor
open Go.ChangeShapes Go.WideShapes Go.ChangeAt Go.RowKit Plain
set_option maxHeartbeats 4000000
set_option linter.unusedVariables false
set_option linter.unusedSimpArgs false

def heavyK (x : Int) : Bool := x == 2 || x == 3 || x == 6
def bishopOn (g : Nat → Int) (par : Nat) (i : Nat) : Bool := kindOf (g i) == 4 && (i % 8 + i / 8) % 2 == par
def knightOn (g : Nat → Int) (i : Nat) : Bool := kindOf (g i) == 5
def deadB (g : Nat → Int) : Bool :=
  if 0 < cnt (fun i => heavyK (kindOf (g i))) 64 then false
  else if 0 < cnt (knightOn g) 64 then (cnt (knightOn g) 64 == 1) && (cnt (bishopOn g 0) 64 + cnt (bishopOn g 1) 64 == 0)
  else (cnt (bishopOn g 0) 64 == 0) || (cnt (bishopOn g 1) 64 == 0)
def two (a b : Nat) (j : Nat) : Value := .int .i64 (if j = 0 then a else b : Nat)
set_option maxRecDepth 100000 in
theorem dead_any (g : Nat → Int) (hg : ∀ i, i < 64 → 0 ≤ g i ∧ g i ≤ 12) (w : World) :
    Calls Tryd.prog 13 #[intRow 69 g] w fun e w' => e = .returned (.bool (deadB g)) ∧ Below w.heap.size w w' := by
  have hr := rowIs_new w 28 69 (fun i => .int .i64 (g i))
  have hb : Below w.heap.size w (w.alloc (.cells (rowArr 69 fun i => .int .i64 (g i)) 28)) := (Below.refl _ _).alloc (Nat.le_refl _) _
  unfold intRow
  generalize hw1 : (w.alloc (.cells (rowArr 69 fun i => .int .i64 (g i)) 28)) = w1 at hr hb
  have hs1 : w1.heap.size = w.heap.size + 1 := by rw [← hw1]; simp
  have hr2 := hr.alloc (.cells #[.int .i64 0, .int .i64 0] 66)
  have hb2 : Below w.heap.size w (w1.alloc (.cells #[.int .i64 0, .int .i64 0] 66)) := hb.alloc (by omega) _
  have ht2 : (w1.alloc (.cells #[.int .i64 0, .int .i64 0] 66)).rowIs (w.heap.size + 1) 66 2 (two 0 0) := by
    have := World.rowIs_alloc w1 #[.int .i64 0, .int .i64 0] 66 (two 0 0) (fun i hi => by
      have : i = 0 ∨ i = 1 := by simp at hi; omega
      rcases this with rfl | rfl <;> rfl)
    rw [hs1] at this
    exact this
  go_enter Tryd.func13, Tryd.ntmps13
  go_wp2
  generalize (w1.alloc (.cells #[.int .i64 0, .int .i64 0] 66)) = w2 at *
  clear hr hb hw1 hs1 w1
  go_loopw [3, 5] (fun m i wr => ∃ j : Nat, j ≤ 64 ∧ i = .int .i64 j ∧ m = .int .i64 (cnt (knightOn g) j) ∧ cnt (fun i => heavyK (kindOf (g i))) j = 0 ∧ wr.rowIs w.heap.size 28 69 (fun i => .int .i64 (g i)) ∧ wr.rowIs (w.heap.size + 1) 66 2 (two (cnt (bishopOn g 0) j) (cnt (bishopOn g 1) j)) ∧ Below w.heap.size w wr) (fun _ i _ => 64 - (intOf i).toNat)
  case atStart => exact ⟨0, by omega, rfl, rfl, rfl, hr2, ht2, hb2⟩
  case round =>
    clear hr2 ht2 hb2
    obtain ⟨j, hj, rfl, rfl, hh, hr, ht, hb⟩ := hrel
    by_cases hlt : j < 64
    · have hc := hr.cell (i := j) (by omega)
      have hgj := hg j hlt
      have hk0 : 0 ≤ kindOf (g j) ∧ kindOf (g j) ≤ 6 := by unfold kindOf; split <;> omega
      have hcall := Lib.hid fun v => kindOf_any (g j) (by omega) (by omega) v
      have hH : cnt (fun i => heavyK (kindOf (g i))) (j + 1) = if heavyK (kindOf (g j)) = true then 1 else 0 := by rw [cnt_succ, hh, Nat.zero_add]
      have hK := cnt_succ (knightOn g) j
      have hB0 := cnt_succ (bishopOn g 0) j
      have hB1 := cnt_succ (bishopOn g 1) j
      have l1 := cnt_le (knightOn g) j
      have l2 := cnt_le (bishopOn g 0) j
      have l3 := cnt_le (bishopOn g 1) j
      unfold knightOn at hK
      unfold bishopOn at hB0 hB1
      have hfalse : heavyK (kindOf (g j)) = true → deadB g = false := fun h => by
        have : 0 < cnt (fun i => heavyK (kindOf (g i))) 64 := by
          rcases Nat.eq_zero_or_pos (cnt (fun i => heavyK (kindOf (g i))) 64) with h0 | h0
          · have := cnt_zero.1 h0 j hlt; rw [h] at this; cases this
          · exact h0
        unfold deadB; rw [if_pos this]
      change cnt (knightOn g) (j + 1) = cnt (knightOn g) j + _ at hK
      change cnt (bishopOn g 0) (j + 1) = cnt (bishopOn g 0) j + _ at hB0
      change cnt (bishopOn g 1) (j + 1) = cnt (bishopOn g 1) j + _ at hB1
      have hpar : (j % 8 + j / 8) % 2 = 0 ∨ (j % 8 + j / 8) % 2 = 1 := by omega
      have hc0 := ht.cell (i := 0) (by omega)
      have hc1 := ht.cell (i := 1) (by omega)
      have hf0 := ht.frozen 0
      have hf1 := ht.frozen 1
      have hs0 := ht.set 0 (.int .i64 ((cnt (bishopOn g 0) j : Int) + 1))
      have hs1 := ht.set 1 (.int .i64 ((cnt (bishopOn g 1) j : Int) + 1))
      have hr0 := hr.setOther (a := ⟨w.heap.size + 1, 0, none⟩) (by simp) (.int .i64 ((cnt (bishopOn g 0) j : Int) + 1))
      have hr1 := hr.setOther (a := ⟨w.heap.size + 1, 1, none⟩) (by simp) (.int .i64 ((cnt (bishopOn g 1) j : Int) + 1))
      have hb0 : Below w.heap.size w (wr.setCell ⟨w.heap.size + 1, 0, none⟩ (.int .i64 ((cnt (bishopOn g 0) j : Int) + 1))) := hb.setCell (by simp) _
      have hb1 : Below w.heap.size w (wr.setCell ⟨w.heap.size + 1, 1, none⟩ (.int .i64 ((cnt (bishopOn g 1) j : Int) + 1))) := hb.setCell (by simp) _
      have two0 : two (cnt (bishopOn g 0) j) (cnt (bishopOn g 1) j) 0 = .int .i64 (cnt (bishopOn g 0) j : Nat) := rfl
      have two1 : two (cnt (bishopOn g 0) j) (cnt (bishopOn g 1) j) 1 = .int .i64 (cnt (bishopOn g 1) j : Nat) := rfl
      rw [two0] at hc0
      rw [two1] at hc1
      clear hg hgj two0 two1
      generalize hkk : kindOf (g j) = K at *
      generalize cnt (knightOn g) j = a at *
      generalize hba : cnt (bishopOn g 0) j = b0 at *
      generalize hbb : cnt (bishopOn g 1) j = b1 at *
      have hK7 : K = 0 ∨ K = 1 ∨ K = 2 ∨ K = 3 ∨ K = 4 ∨ K = 5 ∨ K = 6 := by omega
      clear hk0
      replace hkk := Lib.hid hkk
      replace hpar := Lib.hid hpar
      replace hfalse := Lib.hid hfalse
      replace hh := Lib.hid hh
      replace hH := Lib.hid hH
      replace hK := Lib.hid hK
      replace hB0 := Lib.hid hB0
      replace hB1 := Lib.hid hB1
      replace hr := Lib.hid hr
      replace ht := Lib.hid ht
      replace hb := Lib.hid hb
      replace hs0 := Lib.hid hs0
      replace hs1 := Lib.hid hs1
      replace hba := Lib.hid hba
      replace hbb := Lib.hid hbb
      rcases hK7 with rfl | rfl | rfl | rfl | rfl | rfl | rfl
      case inr.inr.inl | inr.inr.inr.inl | inr.inr.inr.inr.inr.inr =>
        go_wp2_with (go_at_call 35; refine (hcall.out _).mono ?_; rintro e w' ⟨rfl, rfl⟩)
        go_ret
        exact ⟨by rw [hfalse.out rfl]; rfl, hb.out⟩
      case inr.inr.inr.inr.inl =>
        rcases hpar.out with hp | hp
        · have hpi : ((j : Int) % 8 + (j : Int) / 8) % 2 = 0 := by omega
          clear hc1 hf1
          replace hb1 := Lib.hid hb1
          go_wp2_with (first | (go_at_call 35; refine (hcall.out _).mono ?_; rintro e w' ⟨rfl, rfl⟩) | (go_at_call 36; refine (file_any _ (by omega) (by omega) _).mono ?_; rintro e w' ⟨rfl, rfl⟩) | (go_at_call 23; refine (rank_any _ (by omega) (by omega) _).mono ?_; rintro e w' ⟨rfl, rfl⟩))
          refine ⟨⟨j + 1, by omega, by go_num, by rw [hK.out]; rfl, by rw [hH.out]; rfl, hr0, ?_, hb0⟩, by simp [intOf]; omega⟩
          refine hs0.out.congr fun i hi => ?_
          rw [hB0.out, hB1.out, hp]
          have : i = 0 ∨ i = 1 := by omega
          rcases this with rfl | rfl <;> simp [two]
        · have hpi : ((j : Int) % 8 + (j : Int) / 8) % 2 = 1 := by omega
          clear hc0 hf0
          replace hb0 := Lib.hid hb0
          go_wp2_with (first | (go_at_call 35; refine (hcall.out _).mono ?_; rintro e w' ⟨rfl, rfl⟩) | (go_at_call 36; refine (file_any _ (by omega) (by omega) _).mono ?_; rintro e w' ⟨rfl, rfl⟩) | (go_at_call 23; refine (rank_any _ (by omega) (by omega) _).mono ?_; rintro e w' ⟨rfl, rfl⟩))
          refine ⟨⟨j + 1, by omega, by go_num, by rw [hK.out]; rfl, by rw [hH.out]; rfl, hr1, ?_, hb1⟩, by simp [intOf]; omega⟩
          refine hs1.out.congr fun i hi => ?_
          rw [hB0.out, hB1.out, hp]
          have : i = 0 ∨ i = 1 := by omega
          rcases this with rfl | rfl <;> simp [two]
      all_goals
        go_wp2_with (go_at_call 35; refine (hcall.out _).mono ?_; rintro e w' ⟨rfl, rfl⟩)
        refine ⟨⟨j + 1, by omega, by go_num, by rw [hK.out]; rfl, by rw [hH.out]; rfl, hr.out, ?_, hb.out⟩, by simp [intOf]; omega⟩
        rw [hB0.out, hB1.out]
        exact ht.out
    · obtain rfl : j = 64 := by omega
      have hc0 := ht.cell (i := 0) (by omega)
      have hc1 := ht.cell (i := 1) (by omega)
      have two0 : two (cnt (bishopOn g 0) 64) (cnt (bishopOn g 1) 64) 0 = .int .i64 (cnt (bishopOn g 0) 64 : Nat) := rfl
      have two1 : two (cnt (bishopOn g 0) 64) (cnt (bishopOn g 1) 64) 1 = .int .i64 (cnt (bishopOn g 1) 64 : Nat) := rfl
      rw [two0] at hc0
      rw [two1] at hc1
      have l1 := cnt_le (knightOn g) 64
      have l2 := cnt_le (bishopOn g 0) 64
      have l3 := cnt_le (bishopOn g 1) 64
      have hD : deadB g = if 0 < cnt (knightOn g) 64 then (cnt (knightOn g) 64 == 1) && (cnt (bishopOn g 0) 64 + cnt (bishopOn g 1) 64 == 0) else (cnt (bishopOn g 0) 64 == 0) || (cnt (bishopOn g 1) 64 == 0) := by
        unfold deadB; rw [if_neg (by omega)]
      clear two0 two1 hh hr ht hg
      generalize cnt (knightOn g) 64 = a at *
      generalize cnt (bishopOn g 0) 64 = b0 at *
      generalize cnt (bishopOn g 1) 64 = b1 at *
      replace hD := Lib.hid hD
      by_cases ha : 0 < a
      · have hda : decide ((0 : Int) < a) = true := by simpa using ha
        cases ha1 : ((a : Int) == 1)
        · go_wp2
          go_ret
          exact ⟨by rw [hD.out, if_pos ha]; simp at ha1; simp; omega, hb⟩
        · have hsum : IntKind.i64.wrap ((b0 : Int) + b1) = (b0 : Int) + b1 := IntWalk.i64_in _ (by omega)
          go_wp2
          go_ret
          refine ⟨ret_bool ?_, hb⟩
          rw [hD.out, if_pos ha, Bool.eq_iff_iff]
          simp at ha1 ⊢
          omega
      · have hda : decide ((0 : Int) < a) = false := by simpa using ha
        cases hb0 : ((b0 : Int) == 0)
        · go_wp2
          go_ret
          refine ⟨ret_bool ?_, hb⟩
          rw [hD.out, if_neg ha, Bool.eq_iff_iff]
          simp at hb0 ⊢
          omega
        · go_wp2
          go_ret
          refine ⟨ret_bool ?_, hb⟩
          rw [hD.out, if_neg ha, Bool.eq_iff_iff]
          simp at hb0 ⊢
          omega
end Go.Proofs.YtnlicbhelnocpaaDoor

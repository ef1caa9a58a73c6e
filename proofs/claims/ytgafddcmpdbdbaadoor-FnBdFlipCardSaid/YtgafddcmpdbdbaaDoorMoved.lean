/- The law's own helpers on boards: bdRight, bdMoved. -/
import Derived.Test.YtgafddcmpdbdbaaDoorEqArr
import Derived.StillTailTactics
import Derived.BigQuiet
namespace Go.Proofs.YtgafddcmpdbdbaaDoor
open Go.ChangeShapes Go.WideShapes Go.ChangeAt Go.RowKit Plain
set_option maxHeartbeats 4000000
set_option linter.unusedVariables false
set_option linter.unusedSimpArgs false

def Right (bd : Nat → Int) : Prop := ∀ i, i < 64 → 0 ≤ bd i ∧ bd i ≤ 12
set_option maxRecDepth 100000 in
theorem bdRight_any (bd : Nat → Int) (w : World) :
    Calls Tryd.prog 12 #[intRow 64 bd] w fun e w' => ∃ r, e = .returned (.bool r) ∧ (r = true ↔ Right bd) ∧ Below w.heap.size w w' := by
  unfold intRow
  have hr := rowIs_new w 23 64 (fun i => .int .i64 (bd i))
  have hb : Below w.heap.size w (w.alloc (.cells (rowArr 64 fun i => .int .i64 (bd i)) 23)) := (Below.refl _ _).alloc (Nat.le_refl _) _
  go_enter Tryd.func12, Tryd.ntmps12
  go_wp2
  generalize (w.alloc (.cells (rowArr 64 fun i => .int .i64 (bd i)) 23)) = w1 at *
  go_loopw [3] (fun i wr => ∃ k : Nat, k ≤ 64 ∧ i = .int .i64 k ∧ (∀ j, j < k → 0 ≤ bd j ∧ bd j ≤ 12) ∧ wr = w1) (fun i _ => 64 - (intOf i).toNat)
  case atStart => exact ⟨0, by omega, rfl, fun j hj => absurd hj (by omega), rfl⟩
  case round =>
    obtain ⟨k, hk, rfl, hall, rfl⟩ := hrel
    by_cases hlt : k < 64
    · have hc := hr.cell (i := k) (by omega)
      have hall := Lib.hid hall
      by_cases h1 : bd k < 0
      · have hd : decide (bd k < 0) = true := by simpa using h1
        have hn : ¬ Right bd := fun h => absurd (h k hlt) (by omega)
        clear h1
        go_wp2
        all_goals (go_ret; exact ⟨false, rfl, ⟨fun h => (by cases h), fun h => absurd h hn⟩, hb⟩)
      · have hd : decide (bd k < 0) = false := by simpa using h1
        by_cases h2 : 12 < bd k
        · have hd2 : decide (12 < bd k) = true := by simpa using h2
          have hn : ¬ Right bd := fun h => absurd (h k hlt) (by omega)
          clear h1 h2
          go_wp2
          all_goals (go_ret; exact ⟨false, rfl, ⟨fun h => (by cases h), fun h => absurd h hn⟩, hb⟩)
        · have hd2 : decide (12 < bd k) = false := by simpa using h2
          have h3 := Lib.hid (show 0 ≤ bd k ∧ bd k ≤ 12 by omega)
          clear h1 h2
          go_wp2
          refine ⟨⟨k + 1, by omega, by go_num, fun j hj => ?_, trivial⟩, by simp [intOf]; omega⟩
          by_cases e : j = k
          · subst e; exact h3.out
          · exact hall.out j (by omega)
    · obtain rfl : k = 64 := by omega
      have hall := Lib.hid hall
      go_wp2
      go_ret
      exact ⟨true, rfl, ⟨fun _ => hall.out, fun _ => rfl⟩, hb⟩

theorem bdRight_true (bd : Nat → Int) (h : Right bd) (w : World) :
    Calls Tryd.prog 12 #[intRow 64 bd] w fun e w' => e = .returned (.bool true) ∧ Below w.heap.size w w' :=
  (bdRight_any bd w).mono fun e w' ⟨r, he, hr, hb⟩ => ⟨by rw [he, hr.2 h], hb⟩
theorem bdRight_false (bd : Nat → Int) (h : ¬ Right bd) (w : World) :
    Calls Tryd.prog 12 #[intRow 64 bd] w fun e w' => e = .returned (.bool false) ∧ Below w.heap.size w w' :=
  (bdRight_any bd w).mono fun e w' ⟨r, he, hr, hb⟩ => ⟨by cases r; exact he; exact absurd (hr.1 rfl) h, hb⟩

theorem small_mul {a p : Int} (h0 : -1 ≤ a) (h1 : a ≤ 1) (h2 : 0 ≤ p) (h3 : p ≤ 7) : -7 ≤ a * p ∧ a * p ≤ 7 := by
  have : a = -1 ∨ a = 0 ∨ a = 1 := by omega
  rcases this with rfl | rfl | rfl <;> omega
def movedStep (bd : Nat → Int) (to : Nat → Nat) (k : Nat) (j : Nat) : Int := if to j < k then bd (to j) else 0
set_option maxRecDepth 100000 in
theorem bdMoved_any (bd : Nat → Int) (a b c d e g : Int) (ha : -1 ≤ a ∧ a ≤ 1) (hb' : -1 ≤ b ∧ b ≤ 1) (hc : 0 ≤ c ∧ c ≤ 7) (hd : -1 ≤ d ∧ d ≤ 1) (he : -1 ≤ e ∧ e ≤ 1) (hg : 0 ≤ g ∧ g ≤ 7)
    (to : Nat → Nat) (hto : ∀ i, i < 64 → to i < 64 ∧ to (to i) = i ∧ atOf (a * ((i % 8 : Nat) : Int) + b * ((i / 8 : Nat) : Int) + c) (d * ((i % 8 : Nat) : Int) + e * ((i / 8 : Nat) : Int) + g) = (to i : Int)) (w : World) :
    Calls Tryd.prog 14 #[intRow 64 bd, .agg #[.int .i64 a, .int .i64 b, .int .i64 c, .int .i64 d, .int .i64 e, .int .i64 g]] w fun e w' => e = .returned (intRow 64 fun j => bd (to j)) ∧ Below w.heap.size w w' := by
  have hz : ∀ v : World, (v.alloc (.cells zero64 23)).rowIs v.heap.size 23 64 (fun _ => .int .i64 0) := fun v => by rw [zeroRow]; exact rowIs_new v _ _ _
  have hB := rowIs_new w 23 64 (fun i => .int .i64 (bd i))
  unfold intRow
  generalize hw1 : w.alloc (.cells (rowArr 64 fun i => Value.int .i64 (bd i)) 23) = w1 at hB
  have hb1 : Below w.heap.size w w1 := by rw [← hw1]; exact (Below.refl _ _).alloc (Nat.le_refl _) _
  have hs1 : w1.heap.size = w.heap.size + 1 := by rw [← hw1]; simp
  have hN := fun j u h => cells_new (w := w1) (c := #[.int .i64 a, .int .i64 b, .int .i64 c, .int .i64 d, .int .i64 e, .int .i64 g]) (t := 30) (g := w.heap.size + 1) hs1.symm j u h
  generalize hw2 : w1.alloc (.cells #[.int .i64 a, .int .i64 b, .int .i64 c, .int .i64 d, .int .i64 e, .int .i64 g] 30) = w2 at hN
  have hs2 : w2.heap.size = w.heap.size + 2 := by rw [← hw2]; simp [hs1]
  have hb2 : Below w.heap.size w w2 := by rw [← hw2]; exact hb1.alloc (by omega) _
  have hB2 : w2.rowIs w.heap.size 23 64 (fun i => .int .i64 (bd i)) := by rw [← hw2]; exact hB.alloc _
  have hN0 := hN 0 _ rfl
  have hN1 := hN 1 _ rfl
  have hN2 := hN 2 _ rfl
  have hN3 := hN 3 _ rfl
  have hN4 := hN 4 _ rfl
  have hN5 := hN 5 _ rfl
  simp [Addr.add] at hN0 hN1 hN2 hN3 hN4 hN5
  have hO1 := hz w2
  have hO2 := hz (w2.alloc (.cells zero64 23))
  rw [World.size_alloc, hs2] at hO2
  rw [hs2] at hO1
  have hb24 : Below w2.heap.size w2 ((w2.alloc (.cells zero64 23)).alloc (.cells zero64 23)) := ((Below.refl _ _).alloc (Nat.le_refl _) _).alloc (by simp) _
  have hb4 : Below w.heap.size w ((w2.alloc (.cells zero64 23)).alloc (.cells zero64 23)) := (hb2.alloc (by omega) _).alloc (by simp; omega) _
  have hO1' := hO1.alloc (.cells zero64 23)
  have hO2' := hO2.congr (g := fun j => .int .i64 (movedStep bd to 0 j)) fun j _ => by simp [movedStep]
  go_enter Tryd.func14, Tryd.ntmps14
  go_wp2
  clear hz hw1 hw2 hB hO1 hO2 hb1 hb2 hN
  go_loopw [6, 7, 8] (fun i _ _ wr => ∃ k : Nat, k ≤ 64 ∧ i = .int .i64 k ∧ wr.rowIs (w.heap.size + 3) 23 64 (fun j => .int .i64 (movedStep bd to k j)) ∧ wr.rowIs (w.heap.size + 2) 23 64 (fun _ => .int .i64 0) ∧ Below w2.heap.size w2 wr ∧ Below w.heap.size w wr) (fun i _ _ _ => 64 - (intOf i).toNat)
  case atStart => exact ⟨0, by omega, rfl, hO2', hO1', hb24, hb4⟩
  case round =>
    clear hO2' hO1' hb24 hb4
    obtain ⟨k, hk, rfl, hr, hr1, hb2, hb⟩ := hrel
    by_cases hlt : k < 64
    · obtain ⟨ht1, ht2, ht3⟩ := hto k hlt
      have hBk := (rowIs_below hB2 hb2.drew (by omega)).cell (i := k) (by omega)
      have hM0 := cell_below hb2.drew hN0
      have hM1 := cell_below hb2.drew hN1
      have hM2 := cell_below hb2.drew hN2
      have hM3 := cell_below hb2.drew hN3
      have hM4 := cell_below hb2.drew hN4
      have hM5 := cell_below hb2.drew hN5
      have hOc := (hr.of_block (w' := wr.drew) rfl).cell (i := to k) (by omega)
      have hOf := (hr.of_block (w' := wr.drew) rfl).frozen (to k)
      have hR : (wr.drew.setCell ⟨w.heap.size + 3, to k, none⟩ (.int .i64 (bd k))).rowIs (w.heap.size + 3) 23 64 (fun j => .int .i64 (movedStep bd to (k + 1) j)) := ((hr.of_block (w' := wr.drew) rfl).set (to k) (.int .i64 (bd k))).congr fun j hj => by
        unfold movedStep
        obtain ⟨_, hj2, _⟩ := hto j hj
        by_cases e : j = to k
        · subst e; simp [ht2]
        · have h2 : to j ≠ k := fun h => e (by rw [← h, hj2])
          have : (to j < k + 1) = (to j < k) := by simp only [eq_iff_iff]; omega
          simp [e, this]
      have hR1 := (hr1.of_block (w' := wr.drew) rfl).setOther (a := ⟨w.heap.size + 3, to k, none⟩) (by simp) (.int .i64 (bd k))
      have hB1 : Below w2.heap.size w2 (wr.drew.setCell ⟨w.heap.size + 3, to k, none⟩ (.int .i64 (bd k))) := hb2.drew.setCell (by simp [hs2]) _
      have hB0 : Below w.heap.size w (wr.drew.setCell ⟨w.heap.size + 3, to k, none⟩ (.int .i64 (bd k))) := hb.drew.setCell (by simp) _
      have hp : 0 ≤ ((k % 8 : Nat) : Int) ∧ ((k % 8 : Nat) : Int) ≤ 7 := by omega
      have hq : 0 ≤ ((k / 8 : Nat) : Int) ∧ ((k / 8 : Nat) : Int) ≤ 7 := by omega
      have hf := file_any (k : Int) (by omega) (by omega) wr
      have hg' := rank_any (k : Int) (by omega) (by omega) wr
      rw [show (k : Int) % 8 = ((k % 8 : Nat) : Int) by omega] at hf
      rw [show (k : Int) / 8 = ((k / 8 : Nat) : Int) by omega] at hg'
      generalize ((k % 8 : Nat) : Int) = p at *
      generalize ((k / 8 : Nat) : Int) = q at *
      have m1 := small_mul ha.1 ha.2 hp.1 hp.2
      have m2 := small_mul hb'.1 hb'.2 hq.1 hq.2
      have m3 := small_mul hd.1 hd.2 hp.1 hp.2
      have m4 := small_mul he.1 he.2 hq.1 hq.2
      have e1 : IntKind.i64.wrap (a * p) = a * p := IntWalk.i64_in _ (by omega)
      have e2 : IntKind.i64.wrap (b * q) = b * q := IntWalk.i64_in _ (by omega)
      have e3 : IntKind.i64.wrap (a * p + b * q) = a * p + b * q := IntWalk.i64_in _ (by omega)
      have e4 : IntKind.i64.wrap (a * p + b * q + c) = a * p + b * q + c := IntWalk.i64_in _ (by omega)
      have e5 : IntKind.i64.wrap (d * p) = d * p := IntWalk.i64_in _ (by omega)
      have e6 : IntKind.i64.wrap (e * q) = e * q := IntWalk.i64_in _ (by omega)
      have e7 : IntKind.i64.wrap (d * p + e * q) = d * p + e * q := IntWalk.i64_in _ (by omega)
      have e8 : IntKind.i64.wrap (d * p + e * q + g) = d * p + e * q + g := IntWalk.i64_in _ (by omega)
      have hcall := fun v => at_any (a * p + b * q + c) (d * p + e * q + g) (by omega) (by omega) (by omega) (by omega) v
      simp only [ht3] at hcall
      have hi1 : (0 : Int) ≤ (to k : Int) ∧ (to k : Int) < 64 := by omega
      have hcall := Lib.hid hcall
      have hR := Lib.hid hR
      clear hr hr1 hb2 hb hto m1 m2 m3 m4 ht3 ha hb' hd he hg hc
      go_wp2_with (first | (go_at_call 40; refine hf.mono ?_; rintro e w' ⟨rfl, rfl⟩) | (go_at_call 28; refine hg'.mono ?_; rintro e w' ⟨rfl, rfl⟩))
      refine wp_region_still_tail 29 (by kernel_rfl) (by kernel_rfl) ?_
      simp only [List.take_succ_cons, List.take_zero, List.drop_succ_cons, List.drop_zero]
      have hwd : ({ heap := wr.heap, tape := wr.tape, drawn := wr.drawn + 1, os := wr.os, output := wr.output } : World) = wr.drew := rfl
      rw [hwd]
      clear hwd
      generalize wr.drew = wd at *
      repeat still_step
      still_call (hcall.out wd |>.mono fun e w' ⟨h1, h2⟩ => ⟨h1, h2.symm⟩)
      repeat still_step
      refine wpStill_nil ?_
      go_wp2
      exact ⟨⟨k + 1, by omega, by go_num, hR.out, hR1, hB1, hB0⟩, by simp [intOf]; omega⟩
    · obtain rfl : k = 64 := by omega
      have hr := hr.congr (g := fun j => .int .i64 (bd (to j))) fun j hj => by unfold movedStep; rw [if_pos (hto j hj).1]
      clear hto
      go_wp2_with (first
        | (refine wpList_load_row rfl 23 _ rfl (w.heap.size + 3) rfl _ _ (0, 0) _ (rowIs_block hr) Tryd.underlying23 rfl (by rw [info64, rowArr_size]) ?_)
        | (refine wpList_store_row rfl 23 _ _ rfl (w.heap.size + 2) _ rfl rfl _ _ (rowIs_block hr1) (by rw [info64, rowArr_size]) (by rw [rowArr_size, rowArr_size]) (intRow_one _ _) ?_))
      refine bodyPost_ret (results_cell_row rfl _ _ (w.heap.size + 2) _ _ (0, 0) _ rfl (rowIs_block (rowIs_setRow hr1 _)) Tryd.underlying23 rfl (by rw [info64, rowArr_size])) rfl ?_
      exact ⟨rfl, below_setRow hb (by omega) _⟩
end Go.Proofs.YtgafddcmpdbdbaaDoor

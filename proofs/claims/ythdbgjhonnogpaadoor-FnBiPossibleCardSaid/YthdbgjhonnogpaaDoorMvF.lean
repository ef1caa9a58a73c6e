/- The rules' positions, weakly: the square behind a pawn. -/
import Derived.Test.YthdbgjhonnogpaaDoorMvE
namespace Go.Proofs.YthdbgjhonnogpaaDoor
open Go.ChangeShapes Go.WideShapes Go.ChangeAt Go.RowKit Plain
set_option maxHeartbeats 4000000
set_option linter.unusedVariables false
set_option linter.unusedSimpArgs false

/-- The square behind a pawn: none, or an empty one of the sixth rank of the side to move. -/
def EpOk (g : Nat → Int) : Prop := g 66 = -1 ∨ (0 ≤ g 66 ∧ g 66 < 64 ∧ g 66 / 8 = 5 - 3 * g 64 ∧ g (g 66).toNat = 0)
theorem EpOk.range {g : Nat → Int} (h : EpOk g) : -1 ≤ g 66 ∧ g 66 < 64 := by
  rcases h with h | h <;> omega
def PassP (g : Nat → Int) (e : Ending) : Prop := ∃ y : Bool, e = .returned (.bool y) ∧ (y = true → EpOk g)
set_option maxRecDepth 100000 in
theorem passed_any (g : Nat → Int) (hc : g 64 = 0 ∨ g 64 = 1) (w : World) :
    Calls Tryd.prog 31 #[intRow 69 g] w fun e w' => PassP g e ∧ Below w.heap.size w w' := by
  have hr := rowIs_new w 24 69 (fun i => .int .i64 (g i))
  have hb : Below w.heap.size w (w.alloc (.cells (rowArr 69 fun i => .int .i64 (g i)) 24)) := (Below.refl _ _).alloc (Nat.le_refl _) _
  unfold intRow
  go_enter Tryd.func31, Tryd.ntmps31
  go_upto_region 1 with (fail)
  generalize (w.alloc (.cells (rowArr 69 fun i => .int .i64 (g i)) 24)) = w1 at *
  have c64 : w1.cell? ⟨w.heap.size, 64, none⟩ = some (.int .i64 (g 64)) := hr.cell (i := 64) (by omega)
  have c66 : w1.cell? ⟨w.heap.size, 66, none⟩ = some (.int .i64 (g 66)) := hr.cell (i := 66) (by omega)
  cases h1 : decide (g 66 < 0)
  · have h1' : ¬ g 66 < 0 := of_decide_eq_false h1
    cases h2 : decide (63 < g 66)
    · have h2' : ¬ 63 < g 66 := of_decide_eq_false h2
      obtain ⟨e, he⟩ : ∃ e : Nat, g 66 = e := ⟨(g 66).toNat, by omega⟩
      have he64 : e < 64 := by omega
      have hel : (e : Int) < 64 := by omega
      have cE : w1.cell? ⟨w.heap.size, e, none⟩ = some (.int .i64 (g e)) := hr.cell (i := e) (by omega)
      have hpost : (e : Int) / 8 = 5 - 3 * g 64 → g e = 0 → EpOk g := fun h1 h2 => .inr ⟨by omega, by omega, by rw [he]; exact h1, by rw [he, Int.toNat_natCast]; exact h2⟩
      replace hpost := Lib.hid hpost
      rw [he] at c66 h1 h2
      clear h1' h2' he
      generalize g 64 = c at *
      rcases hc with rfl | rfl
      · have c5 : ∀ x : Int, decide (x = x) = true := fun _ => by simp
        clear c5
        go_upto_region 4 with (fail)
        go_quiet (first | ((go_at_call 24; exact q_of (file_any _ (by omega) (by omega) _))) | ((go_at_call 8; exact q_of (rank_any _ (by omega) (by omega) _))) | ((go_at_call 9; exact q_of (of_any _ _ (by omega) (by omega) (by omega) (by omega) _))) | ((go_at_call 23; exact q_of (at_any _ _ (by omega) (by omega) (by omega) (by omega) _))))
        cases q1 : ((e : Int) / 8 != 5)
        · cases q2 : (g e != 0)
          · have er : (e : Int) / 8 = 5 := by simpa using q1
            replace hpost := Lib.hid (hpost.out (by rw [er]; rfl) (by simpa using q2))
            obtain ⟨t1, ht1⟩ : ∃ t1 : Nat, atOf ((e : Int) % 8) (4) = t1 ∧ t1 < 64 := ⟨(atOf ((e : Int) % 8) (4)).toNat, by unfold atOf; rw [if_pos (by omega)]; omega⟩
            obtain ⟨t2, ht2⟩ : ∃ t2 : Nat, atOf ((e : Int) % 8) (6) = t2 ∧ t2 < 64 := ⟨(atOf ((e : Int) % 8) (6)).toNat, by unfold atOf; rw [if_pos (by omega)]; omega⟩
            obtain ⟨ht1, hl1⟩ := ht1
            obtain ⟨ht2, hl2⟩ := ht2
            have hl1' : (t1 : Int) < 64 := by omega
            have hl2' : (t2 : Int) < 64 := by omega
            go_upto_region 7 with (fail)
            generalize hw2 : w1.drewN nq = w2 at *
            have hb2 : Below w.heap.size w w2 := by rw [← hw2]; exact hb.trans ⟨rfl, rfl, rfl, Nat.le_refl _, fun _ _ => rfl⟩
            have hr2 : w2.rowIs w.heap.size 24 69 (fun i => .int .i64 (g i)) := by rw [← hw2]; exact hr.of_block rfl
            have d64 : w2.cell? ⟨w.heap.size, 64, none⟩ = some (.int .i64 0) := by rw [← hw2]; exact c64
            have d1 : w2.cell? ⟨w.heap.size, t1, none⟩ = some (.int .i64 (g t1)) := hr2.cell (i := t1) (by omega)
            have d2 : w2.cell? ⟨w.heap.size, t2, none⟩ = some (.int .i64 (g t2)) := hr2.cell (i := t2) (by omega)
            clear hw2 hr hb hr2 cE c64 c66 q1 q2
            cases x1 : (g t1 == 12) <;> cases x2 : (g t2 == 0)
            all_goals
              go_quiet (first | ((go_at_call 9; exact q_of (of_any _ _ (by omega) (by omega) (by omega) (by omega) _))) | ((go_at_call 23; exact q_of (at_any _ _ (by omega) (by omega) (by omega) (by omega) _))))
              go_wp2_with (fail)
              go_ret
              exact ⟨⟨_, rfl, fun _ => hpost.out⟩, hb2.trans ⟨rfl, rfl, rfl, Nat.le_refl _, fun _ _ => rfl⟩⟩
          · go_wp2_with (fail)
            go_ret
            exact ⟨⟨_, rfl, fun h => by cases h⟩, hb.trans ⟨rfl, rfl, rfl, Nat.le_refl _, fun _ _ => rfl⟩⟩
        · go_wp2_with (fail)
          go_ret
          exact ⟨⟨_, rfl, fun h => by cases h⟩, hb.trans ⟨rfl, rfl, rfl, Nat.le_refl _, fun _ _ => rfl⟩⟩
      · have c5 : ∀ x : Int, decide (x = x) = true := fun _ => by simp
        clear c5
        go_upto_region 4 with (fail)
        go_quiet (first | ((go_at_call 24; exact q_of (file_any _ (by omega) (by omega) _))) | ((go_at_call 8; exact q_of (rank_any _ (by omega) (by omega) _))) | ((go_at_call 9; exact q_of (of_any _ _ (by omega) (by omega) (by omega) (by omega) _))) | ((go_at_call 23; exact q_of (at_any _ _ (by omega) (by omega) (by omega) (by omega) _))))
        cases q1 : ((e : Int) / 8 != 2)
        · cases q2 : (g e != 0)
          · have er : (e : Int) / 8 = 2 := by simpa using q1
            replace hpost := Lib.hid (hpost.out (by rw [er]; rfl) (by simpa using q2))
            obtain ⟨t1, ht1⟩ : ∃ t1 : Nat, atOf ((e : Int) % 8) (3) = t1 ∧ t1 < 64 := ⟨(atOf ((e : Int) % 8) (3)).toNat, by unfold atOf; rw [if_pos (by omega)]; omega⟩
            obtain ⟨t2, ht2⟩ : ∃ t2 : Nat, atOf ((e : Int) % 8) (1) = t2 ∧ t2 < 64 := ⟨(atOf ((e : Int) % 8) (1)).toNat, by unfold atOf; rw [if_pos (by omega)]; omega⟩
            obtain ⟨ht1, hl1⟩ := ht1
            obtain ⟨ht2, hl2⟩ := ht2
            have hl1' : (t1 : Int) < 64 := by omega
            have hl2' : (t2 : Int) < 64 := by omega
            go_upto_region 7 with (fail)
            generalize hw2 : w1.drewN nq = w2 at *
            have hb2 : Below w.heap.size w w2 := by rw [← hw2]; exact hb.trans ⟨rfl, rfl, rfl, Nat.le_refl _, fun _ _ => rfl⟩
            have hr2 : w2.rowIs w.heap.size 24 69 (fun i => .int .i64 (g i)) := by rw [← hw2]; exact hr.of_block rfl
            have d64 : w2.cell? ⟨w.heap.size, 64, none⟩ = some (.int .i64 1) := by rw [← hw2]; exact c64
            have d1 : w2.cell? ⟨w.heap.size, t1, none⟩ = some (.int .i64 (g t1)) := hr2.cell (i := t1) (by omega)
            have d2 : w2.cell? ⟨w.heap.size, t2, none⟩ = some (.int .i64 (g t2)) := hr2.cell (i := t2) (by omega)
            clear hw2 hr hb hr2 cE c64 c66 q1 q2
            cases x1 : (g t1 == 6) <;> cases x2 : (g t2 == 0)
            all_goals
              go_quiet (first | ((go_at_call 9; exact q_of (of_any _ _ (by omega) (by omega) (by omega) (by omega) _))) | ((go_at_call 23; exact q_of (at_any _ _ (by omega) (by omega) (by omega) (by omega) _))))
              go_wp2_with (fail)
              go_ret
              exact ⟨⟨_, rfl, fun _ => hpost.out⟩, hb2.trans ⟨rfl, rfl, rfl, Nat.le_refl _, fun _ _ => rfl⟩⟩
          · go_wp2_with (fail)
            go_ret
            exact ⟨⟨_, rfl, fun h => by cases h⟩, hb.trans ⟨rfl, rfl, rfl, Nat.le_refl _, fun _ _ => rfl⟩⟩
        · go_wp2_with (fail)
          go_ret
          exact ⟨⟨_, rfl, fun h => by cases h⟩, hb.trans ⟨rfl, rfl, rfl, Nat.le_refl _, fun _ _ => rfl⟩⟩
    · go_wp2_with (fail)
      go_ret
      refine ⟨⟨_, rfl, fun h => ?_⟩, hb⟩
      have h9 := of_decide_eq_true h2
      have h8 : g 66 = -1 := by simpa using h
      exact .inl h8
  · go_wp2_with (fail)
    go_ret
    refine ⟨⟨_, rfl, fun h => ?_⟩, hb⟩
    have h8 : g 66 = -1 := by simpa using h
    exact .inl h8
end Go.Proofs.YthdbgjhonnogpaaDoor

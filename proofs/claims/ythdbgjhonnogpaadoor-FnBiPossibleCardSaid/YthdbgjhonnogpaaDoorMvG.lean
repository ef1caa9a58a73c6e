/- The rules' positions, weakly: Valid (under way). -/
import Derived.Test.YthdbgjhonnogpaaDoorMvF
import Derived.Deep.RegionHeld3
import Derived.Deep.MidRow
namespace Go.Proofs.YthdbgjhonnogpaaDoor
open Go.ChangeShapes Go.WideShapes Go.ChangeAt Go.RowKit Plain
set_option maxHeartbeats 4000000
set_option linter.unusedVariables false
set_option linter.unusedSimpArgs false

/-- What Valid says of a position, as far as the laws' walks ask. -/
structure VG (g : Nat → Int) : Prop where
  board : ∀ i, i < 64 → 0 ≤ g i ∧ g i ≤ 12
  turn : g 64 = 0 ∨ g 64 = 1
  castle : 0 ≤ g 65 ∧ g 65 ≤ 15
  ep : -1 ≤ g 66 ∧ g 66 < 64
  half : 0 ≤ g 67
  full : 1 ≤ g 68
  kings : 0 ≤ kingAt g 0 ∧ 0 ≤ kingAt g 1
  ones : cnt (fun i => g i == 1 + 6 * 0) 64 = 1 ∧ cnt (fun i => g i == 1 + 6 * 1) 64 = 1
  rights : rightsG g = g 65
  safe : attB g (kingAt g (1 - g 64)).toNat (g 64) = false
  epok : EpOk g
theorem king_of_cnt (g : Nat → Int) (s : Int) (h : cnt (fun i => g i == 1 + 6 * s) 64 = 1) : 0 ≤ kingAt g s := by
  have h1 := kingAt_range g s
  rcases Int.lt_or_le (kingAt g s) 0 with hn | hn
  · exfalso
    have e : kFrom g (1 + 6 * s) 64 0 = -1 := by have : kingAt g s = kFrom g (1 + 6 * s) 64 0 := rfl; omega
    obtain ⟨i, hi, hp⟩ := cnt_pos (p := fun i => g i == 1 + 6 * s) (n := 64) (by omega)
    exact kFrom_none g _ 64 0 e i (by omega) (by omega) (by simpa using hp)
  · exact hn
/-- A position's block, as a range. -/
theorem pos_range {w : World} {b : Nat} {g : Nat → Int} (h : w.rowIs b 24 69 (fun i => .int .i64 (g i))) : w.rangeAt b 0 (rowArr 69 fun i => .int .i64 (g i)).toList := by
  intro j v hv
  have hj : j < 69 := by
    have := (List.getElem?_eq_some_iff.1 hv).1
    simpa [rowArr_size] using this
  rw [Nat.zero_add, h.cell hj]
  simp [rowArr, hj] at hv
  rw [← hv]
def ValidP (g : Nat → Int) (e : Ending) : Prop := ∃ y : Bool, e = .returned (.bool y) ∧ (y = true → VG g)
set_option maxRecDepth 100000 in
theorem valid_any (g : Nat → Int) (w : World) :
    Calls Tryd.prog 14 #[intRow 69 g] w fun e w' => ValidP g e ∧ Below w.heap.size w w' := by
  have hr := rowIs_new w 24 69 (fun i => .int .i64 (g i))
  have hb : Below w.heap.size w (w.alloc (.cells (rowArr 69 fun i => .int .i64 (g i)) 24)) := (Below.refl _ _).alloc (Nat.le_refl _) _
  unfold intRow
  go_enter Tryd.func14, Tryd.ntmps14
  go_upto_region 1 with (fail)
  generalize (w.alloc (.cells (rowArr 69 fun i => .int .i64 (g i)) 24)) = w1 at *
  go_wp2_with (fail)
  go_loopw [3] (fun i wr => ∃ k : Nat, k ≤ 64 ∧ i = .int .i64 (k : Int) ∧ (∀ j, j < k → 0 ≤ g j ∧ g j ≤ 12) ∧ wr = w1) (fun i _ => 64 - (intOf i).toNat)
  case atStart => exact ⟨0, by omega, rfl, fun j h => absurd h (by omega), rfl⟩
  case round =>
    obtain ⟨k, hk, rfl, hg, rfl⟩ := hrel
    by_cases hlt : k < 64
    · have ck : wr.cell? ⟨w.heap.size, k, none⟩ = some (.int .i64 (g k)) := hr.cell (i := k) (by omega)
      have hd : decide ((k : Int) < 64) = true := decide_eq_true (by omega)
      have hno : ValidP g (.returned (.bool false)) := ⟨false, rfl, fun h => by cases h⟩
      replace hno := Lib.hid hno
      have hgn : 0 ≤ g k ∧ g k ≤ 12 → ∀ j, j < k + 1 → 0 ≤ g j ∧ g j ≤ 12 := fun h j hj => by
        by_cases e : j = k
        · subst e; exact h
        · exact hg j (by omega)
      replace hgn := Lib.hid hgn
      have hkl : (k : Int) < 64 := by omega
      clear hg
      generalize hx : g k = x at *
      replace hx := Lib.hid hx
      cases x1 : decide (x < 0)
      · have x1' := of_decide_eq_false x1
        cases x2 : decide (12 < x)
        · have x2' := of_decide_eq_false x2
          replace hgn := Lib.hid (hgn.out (by omega))
          have hkd := Lib.hid (kindOf_any x (by omega) (by omega))
          generalize kindOf x = K at *
          clear x1' x2'
          cases x3 : (K == 6) <;> cases x4 : (x != 0) <;> cases x5 : ((k : Int) / 8 == 0) <;> cases x6 : ((k : Int) / 8 == 7)
          all_goals
            go_wp2_with (first
              | (go_at_call 22; refine (hkd.out _).mono ?_; rintro e w' ⟨rfl, rfl⟩)
              | (go_at_call 8; refine (rank_any _ (by omega) (by omega) _).mono ?_; rintro e w' ⟨rfl, rfl⟩))
            first
              | exact ⟨⟨k + 1, by omega, by go_num, hgn.out, by trivial⟩, by simp [intOf]; omega⟩
              | (go_ret; exact ⟨hno.out, hb⟩)
        · go_wp2_with (fail)
          go_ret
          exact ⟨hno.out, hb⟩
      · go_wp2_with (fail)
        go_ret
        exact ⟨hno.out, hb⟩
    · obtain rfl : k = 64 := by omega
      have c64 : wr.cell? ⟨w.heap.size, 64, none⟩ = some (.int .i64 (g 64)) := hr.cell (i := 64) (by omega)
      have c65 : wr.cell? ⟨w.heap.size, 65, none⟩ = some (.int .i64 (g 65)) := hr.cell (i := 65) (by omega)
      have c67 : wr.cell? ⟨w.heap.size, 67, none⟩ = some (.int .i64 (g 67)) := hr.cell (i := 67) (by omega)
      have c68 : wr.cell? ⟨w.heap.size, 68, none⟩ = some (.int .i64 (g 68)) := hr.cell (i := 68) (by omega)
      have hno : ValidP g (.returned (.bool false)) := ⟨false, rfl, fun h => by cases h⟩
      replace hno := Lib.hid hno
      replace hg := Lib.hid hg
      cases y0 : (g 64 != 0)
      · cases y2 : decide (g 65 < 0)
        · cases y3 : decide (15 < g 65)
          · cases y4 : decide (g 67 < 0)
            · cases y5 : decide (g 68 < 1)
              · -- PLACE0
                have hld := hr.lt
                have hcc : g 64 = 0 := by simpa using y0
                have hC0 := Lib.hid (fun w => count_any g 1 0 (by omega) (by omega) (by omega) (by omega) w)
                have hC1 := Lib.hid (fun w => count_any g 1 1 (by omega) (by omega) (by omega) (by omega) w)
                have hRi := Lib.hid (fun w => rights_any g w)
                have hPa := Lib.hid (fun w => passed_any g (by omega) w)
                have hKg := Lib.hid (fun w => kingAt_any g (1 - 0) (by omega) (by omega) w)
                have hAt := fun (q : Nat) (hq : q < 64) w => attacked_any g hg.out q hq 0 (by omega) (by omega) w
                unfold intRow at hC0 hC1 hRi hPa hKg hAt
                replace hAt := Lib.hid hAt
                have hEnd : cnt (fun i => g i == 1 + 6 * 0) 64 = 1 → cnt (fun i => g i == 1 + 6 * 1) 64 = 1 → rightsG g = g 65 → EpOk g → attB g (kingAt g (1 - 0)).toNat 0 = false → VG g := fun e0 e1 e2 e3 e4 =>
                  ⟨hg.out, by omega, ⟨by simpa using y2, by simpa using y3⟩, e3.range, by simpa using y4, by have := of_decide_eq_false y5; omega, ⟨king_of_cnt g 0 e0, king_of_cnt g 1 e1⟩, ⟨e0, e1⟩, e2, by rw [hcc]; exact e4, e3⟩
                have hKN := fun e : cnt (fun i => g i == 1 + 6 * (1 - 0)) 64 = 1 => king_of_cnt g (1 - 0) e
                have hKr := kingAt_range g (1 - 0)
                replace hEnd := Lib.hid hEnd
                simp only [show (1 : Int) - 0 = 1 from rfl] at hKg hEnd hKN hKr
                generalize hk : kingAt g 1 = K at *
                generalize hn0 : cnt (fun i => g i == 1 + 6 * 0) 64 = N0 at *
                generalize hn1 : cnt (fun i => g i == 1 + 6 * 1) 64 = N1 at *
                generalize rightsG g = RG at *
                replace hKN := Lib.hid hKN
                replace hKr := Lib.hid hKr
                rw [hcc] at c64
                clear hn0 hn1 hk hcc hg
                go_upto_region 9 with (fail)
                go_cut [85] from 66 to 85 (fun x wx => (∃ b, x = .bool b ∧ (b = false → (N0 : Int) = 1 ∧ (N1 : Int) = 1 ∧ RG = g 65 ∧ EpOk g)) ∧ Below wr.heap.size wr wx)
                case first =>
                  have hi69 : (Tryd.prog.info? 24).map (·.size) = some (rowArr 69 fun i => Value.int .i64 (g i)).toList.length := by rw [infoPos', Array.length_toList, rowArr_size]
                  have k0 : Below wr.heap.size wr wr.drew := ⟨rfl, rfl, rfl, Nat.le_refl _, fun _ _ => rfl⟩
                  have hSS : ∀ wz, Below wr.heap.size wr wz → Below wr.heap.size wr wz ∧ wz.rangeAt w.heap.size 0 (rowArr 69 fun i => .int .i64 (g i)).toList ∧ wz.cell? ⟨w.heap.size, 65, none⟩ = some (.int .i64 (g 65)) := fun wz h => ⟨h, pos_range (rowIs_below hr h hld), by rw [h.cell hld]; exact c65⟩
                  replace hSS := Lib.hid hSS
                  cases x0 : ((N0 : Int) != 1)
                  · cases x1 : ((N1 : Int) != 1)
                    · cases x2 : (RG != g 65)
                      · refine wp_region_held_drew (S := fun v => Below wr.heap.size wr v ∧ v.rangeAt w.heap.size 0 (rowArr 69 fun i => .int .i64 (g i)).toList ∧ v.cell? ⟨w.heap.size, 65, none⟩ = some (.int .i64 (g 65))) (by kernel_rfl) ?_ (fun hHeld => ?_)
                        · exact hSS.out _ k0
                        refine wpAnyH_take (i := 0) rfl (by kernel_rfl) (by kernel_rfl) (by kernel_rfl) (fun _ _ _ h => h) (yieldsIf_load_mid (by rfl) _ _ rfl _ _ rfl _ _ (fun w h => h.2.1) Tryd.underlying24 rfl hi69) (by assumption) ?_; try simp only [List.getElem_toArray, List.getElem_cons_succ, List.getElem_cons_zero, Act.put, List.setIfInBounds_toArray, List.set_cons_zero, List.set_cons_succ]
                        refine wpAnyH_ready (rs := [1]) (by kernel_rfl) (by simp) ?_; refine AllReadyH.cons rfl (fun K hK => ?_) AllReadyH.nil; go_simp
                        refine (hC0.out _).mono ?_
                        rintro e w2 ⟨rfl, hb2⟩
                        refine hK.out _ _ (hSS.out _ (hHeld.1.trans (hb2.mono hHeld.1.size))) (fun hHeld => ?_); clear hK K; try simp only [List.getElem_toArray, List.getElem_cons_succ, List.getElem_cons_zero, Act.put, List.setIfInBounds_toArray, List.set_cons_zero, List.set_cons_succ]
                        (refine wpAnyH_take (i := 2) (v := ?_) rfl (by kernel_rfl) (by kernel_rfl) (by kernel_rfl) (fun _ _ _ h => h) (Or.inl ⟨by rfl, ?_⟩) (by assumption) ?_; rotate_left; · (intro w hSw; go_simp; try with_reducible rfl)); try simp only [List.getElem_toArray, List.getElem_cons_succ, List.getElem_cons_zero, Act.put, List.setIfInBounds_toArray, List.set_cons_zero, List.set_cons_succ]
                        (refine wpAnyH_take (i := 3) (v := ?_) rfl (by kernel_rfl) (by kernel_rfl) (by kernel_rfl) (fun _ _ _ h => h) (Or.inl ⟨by rfl, ?_⟩) (by assumption) ?_; rotate_left; · (intro w hSw; go_simp; try with_reducible rfl)); try simp only [List.getElem_toArray, List.getElem_cons_succ, List.getElem_cons_zero, Act.put, List.setIfInBounds_toArray, List.set_cons_zero, List.set_cons_succ]
                        refine wpAnyH_take (i := 4) rfl (by kernel_rfl) (by kernel_rfl) (by kernel_rfl) (fun _ _ _ h => h) (yieldsIf_load_mid (by rfl) _ _ rfl _ _ rfl _ _ (fun w h => h.2.1) Tryd.underlying24 rfl hi69) (by assumption) ?_; try simp only [List.getElem_toArray, List.getElem_cons_succ, List.getElem_cons_zero, Act.put, List.setIfInBounds_toArray, List.set_cons_zero, List.set_cons_succ]
                        refine wpAnyH_ready (rs := [5]) (by kernel_rfl) (by simp) ?_; refine AllReadyH.cons rfl (fun K hK => ?_) AllReadyH.nil; go_simp
                        refine (hC1.out _).mono ?_
                        rintro e w3 ⟨rfl, hb3⟩
                        refine hK.out _ _ (hSS.out _ (hHeld.1.trans (hb3.mono hHeld.1.size))) (fun hHeld => ?_); clear hK K; try simp only [List.getElem_toArray, List.getElem_cons_succ, List.getElem_cons_zero, Act.put, List.setIfInBounds_toArray, List.set_cons_zero, List.set_cons_succ]
                        (refine wpAnyH_take (i := 6) (v := ?_) rfl (by kernel_rfl) (by kernel_rfl) (by kernel_rfl) (fun _ _ _ h => h) (Or.inl ⟨by rfl, ?_⟩) (by assumption) ?_; rotate_left; · (intro w hSw; go_simp; try with_reducible rfl)); try simp only [List.getElem_toArray, List.getElem_cons_succ, List.getElem_cons_zero, Act.put, List.setIfInBounds_toArray, List.set_cons_zero, List.set_cons_succ]
                        (refine wpAnyH_take (i := 7) (v := ?_) rfl (by kernel_rfl) (by kernel_rfl) (by kernel_rfl) (fun _ _ _ h => h) (Or.inl ⟨by rfl, ?_⟩) (by assumption) ?_; rotate_left; · (intro w hSw; go_simp; try with_reducible rfl)); try simp only [List.getElem_toArray, List.getElem_cons_succ, List.getElem_cons_zero, Act.put, List.setIfInBounds_toArray, List.set_cons_zero, List.set_cons_succ]
                        (refine wpAnyH_take (i := 8) (v := ?_) rfl (by kernel_rfl) (by kernel_rfl) (by kernel_rfl) (fun _ _ _ h => h) (Or.inl ⟨by rfl, ?_⟩) (by assumption) ?_; rotate_left; · (intro w hSw; go_simp; try with_reducible rfl)); try simp only [List.getElem_toArray, List.getElem_cons_succ, List.getElem_cons_zero, Act.put, List.setIfInBounds_toArray, List.set_cons_zero, List.set_cons_succ]
                        refine wpAnyH_take (i := 9) rfl (by kernel_rfl) (by kernel_rfl) (by kernel_rfl) (fun _ _ _ h => h) (yieldsIf_load_mid (by rfl) _ _ rfl _ _ rfl _ _ (fun w h => h.2.1) Tryd.underlying24 rfl hi69) (by assumption) ?_; try simp only [List.getElem_toArray, List.getElem_cons_succ, List.getElem_cons_zero, Act.put, List.setIfInBounds_toArray, List.set_cons_zero, List.set_cons_succ]
                        (refine wpAnyH_take (i := 11) (v := ?_) rfl (by kernel_rfl) (by kernel_rfl) (by kernel_rfl) (fun _ _ _ h => h) (Or.inl ⟨by rfl, ?_⟩) (by assumption) ?_; rotate_left; · (intro w hSw; go_simp; try with_reducible rfl)); try simp only [List.getElem_toArray, List.getElem_cons_succ, List.getElem_cons_zero, Act.put, List.setIfInBounds_toArray, List.set_cons_zero, List.set_cons_succ]
                        (refine wpAnyH_take (i := 12) (v := ?_) rfl (by kernel_rfl) (by kernel_rfl) (by kernel_rfl) (fun _ _ _ h => h) (Or.inl ⟨by rfl, ?_⟩) (by assumption) ?_; rotate_left; · (intro w hSw; go_simp; try with_reducible rfl)); try simp only [List.getElem_toArray, List.getElem_cons_succ, List.getElem_cons_zero, Act.put, List.setIfInBounds_toArray, List.set_cons_zero, List.set_cons_succ]
                        refine wpAnyH_ready (rs := [10]) (by kernel_rfl) (by simp) ?_; refine AllReadyH.cons rfl (fun K hK => ?_) AllReadyH.nil; go_simp
                        refine (hRi.out _).mono ?_
                        rintro e w4 ⟨rfl, hb4⟩
                        refine hK.out _ _ (hSS.out _ (hHeld.1.trans (hb4.mono hHeld.1.size))) (fun hHeld => ?_); clear hK K; try simp only [List.getElem_toArray, List.getElem_cons_succ, List.getElem_cons_zero, Act.put, List.setIfInBounds_toArray, List.set_cons_zero, List.set_cons_succ]
                        (refine wpAnyH_take (i := 13) (v := ?_) rfl (by kernel_rfl) (by kernel_rfl) (by kernel_rfl) (fun _ _ _ h => h) (Or.inl ⟨by rfl, ?_⟩) (by assumption) ?_; rotate_left; · (intro w hSw; go_simp; try with_reducible rfl)); try simp only [List.getElem_toArray, List.getElem_cons_succ, List.getElem_cons_zero, Act.put, List.setIfInBounds_toArray, List.set_cons_zero, List.set_cons_succ]
                        (refine wpAnyH_take (i := 14) (v := ?_) rfl (by kernel_rfl) (by kernel_rfl) (by kernel_rfl) (fun _ _ _ h => h) (Or.inl ⟨by rfl, ?_⟩) (by assumption) ?_; rotate_left; · (intro w hSw; go_simp; try with_reducible rfl)); try simp only [List.getElem_toArray, List.getElem_cons_succ, List.getElem_cons_zero, Act.put, List.setIfInBounds_toArray, List.set_cons_zero, List.set_cons_succ]
                        (refine wpAnyH_take (i := 15) (v := ?_) rfl (by kernel_rfl) (by kernel_rfl) (by kernel_rfl) (fun _ _ _ h => h) (Or.inl ⟨by rfl, ?_⟩) (by assumption) ?_; rotate_left; · (intro w hSw; go_simp; try with_reducible rfl)); try simp only [List.getElem_toArray, List.getElem_cons_succ, List.getElem_cons_zero, Act.put, List.setIfInBounds_toArray, List.set_cons_zero, List.set_cons_succ]
                        refine wpAnyH_take (i := 16) rfl (by kernel_rfl) (by kernel_rfl) (by kernel_rfl) (fun _ _ _ h => h) (yieldsIf_load_mid (by rfl) _ _ rfl _ _ rfl _ _ (fun w h => h.2.1) Tryd.underlying24 rfl hi69) (by assumption) ?_; try simp only [List.getElem_toArray, List.getElem_cons_succ, List.getElem_cons_zero, Act.put, List.setIfInBounds_toArray, List.set_cons_zero, List.set_cons_succ]
                        refine wpAnyH_ready (rs := [17]) (by kernel_rfl) (by simp) ?_; refine AllReadyH.cons rfl (fun K hK => ?_) AllReadyH.nil; go_simp
                        refine (hPa.out _).mono ?_
                        rintro e w5 ⟨⟨y, rfl, hy⟩, hb5⟩
                        refine hK.out _ _ (hSS.out _ (hHeld.1.trans (hb5.mono hHeld.1.size))) (fun hHeld => ?_); clear hK K; try simp only [List.getElem_toArray, List.getElem_cons_succ, List.getElem_cons_zero, Act.put, List.setIfInBounds_toArray, List.set_cons_zero, List.set_cons_succ]
                        (refine wpAnyH_take (i := 18) (v := ?_) rfl (by kernel_rfl) (by kernel_rfl) (by kernel_rfl) (fun _ _ _ h => h) (Or.inl ⟨by rfl, ?_⟩) (by assumption) ?_; rotate_left; · (intro w hSw; go_simp; try with_reducible rfl)); try simp only [List.getElem_toArray, List.getElem_cons_succ, List.getElem_cons_zero, Act.put, List.setIfInBounds_toArray, List.set_cons_zero, List.set_cons_succ]
                        (refine wpAnyH_take (i := 19) (v := ?_) rfl (by kernel_rfl) (by kernel_rfl) (by kernel_rfl) (fun _ _ _ h => h) (Or.inl ⟨by rfl, ?_⟩) (by assumption) ?_; rotate_left; · (intro w hSw; go_simp; try with_reducible rfl)); try simp only [List.getElem_toArray, List.getElem_cons_succ, List.getElem_cons_zero, Act.put, List.setIfInBounds_toArray, List.set_cons_zero, List.set_cons_succ]
                        refine wpAnyH_done (by kernel_rfl) ?_ _
                        go_wp2_with (fail)
                        go_meet
                        exact ⟨⟨_, rfl, fun h => ⟨by simpa using x0, by simpa using x1, by simpa using x2, hy (by simpa using h)⟩⟩, hHeld.1⟩
                      · refine wp_region_held_drew (S := fun v => Below wr.heap.size wr v ∧ v.rangeAt w.heap.size 0 (rowArr 69 fun i => .int .i64 (g i)).toList ∧ v.cell? ⟨w.heap.size, 65, none⟩ = some (.int .i64 (g 65))) (by kernel_rfl) ?_ (fun hHeld => ?_)
                        · exact hSS.out _ k0
                        refine wpAnyH_take (i := 0) rfl (by kernel_rfl) (by kernel_rfl) (by kernel_rfl) (fun _ _ _ h => h) (yieldsIf_load_mid (by rfl) _ _ rfl _ _ rfl _ _ (fun w h => h.2.1) Tryd.underlying24 rfl hi69) (by assumption) ?_; try simp only [List.getElem_toArray, List.getElem_cons_succ, List.getElem_cons_zero, Act.put, List.setIfInBounds_toArray, List.set_cons_zero, List.set_cons_succ]
                        refine wpAnyH_ready (rs := [1]) (by kernel_rfl) (by simp) ?_; refine AllReadyH.cons rfl (fun K hK => ?_) AllReadyH.nil; go_simp
                        refine (hC0.out _).mono ?_
                        rintro e w2 ⟨rfl, hb2⟩
                        refine hK.out _ _ (hSS.out _ (hHeld.1.trans (hb2.mono hHeld.1.size))) (fun hHeld => ?_); clear hK K; try simp only [List.getElem_toArray, List.getElem_cons_succ, List.getElem_cons_zero, Act.put, List.setIfInBounds_toArray, List.set_cons_zero, List.set_cons_succ]
                        (refine wpAnyH_take (i := 2) (v := ?_) rfl (by kernel_rfl) (by kernel_rfl) (by kernel_rfl) (fun _ _ _ h => h) (Or.inl ⟨by rfl, ?_⟩) (by assumption) ?_; rotate_left; · (intro w hSw; go_simp; try with_reducible rfl)); try simp only [List.getElem_toArray, List.getElem_cons_succ, List.getElem_cons_zero, Act.put, List.setIfInBounds_toArray, List.set_cons_zero, List.set_cons_succ]
                        (refine wpAnyH_take (i := 3) (v := ?_) rfl (by kernel_rfl) (by kernel_rfl) (by kernel_rfl) (fun _ _ _ h => h) (Or.inl ⟨by rfl, ?_⟩) (by assumption) ?_; rotate_left; · (intro w hSw; go_simp; try with_reducible rfl)); try simp only [List.getElem_toArray, List.getElem_cons_succ, List.getElem_cons_zero, Act.put, List.setIfInBounds_toArray, List.set_cons_zero, List.set_cons_succ]
                        refine wpAnyH_take (i := 4) rfl (by kernel_rfl) (by kernel_rfl) (by kernel_rfl) (fun _ _ _ h => h) (yieldsIf_load_mid (by rfl) _ _ rfl _ _ rfl _ _ (fun w h => h.2.1) Tryd.underlying24 rfl hi69) (by assumption) ?_; try simp only [List.getElem_toArray, List.getElem_cons_succ, List.getElem_cons_zero, Act.put, List.setIfInBounds_toArray, List.set_cons_zero, List.set_cons_succ]
                        refine wpAnyH_ready (rs := [5]) (by kernel_rfl) (by simp) ?_; refine AllReadyH.cons rfl (fun K hK => ?_) AllReadyH.nil; go_simp
                        refine (hC1.out _).mono ?_
                        rintro e w3 ⟨rfl, hb3⟩
                        refine hK.out _ _ (hSS.out _ (hHeld.1.trans (hb3.mono hHeld.1.size))) (fun hHeld => ?_); clear hK K; try simp only [List.getElem_toArray, List.getElem_cons_succ, List.getElem_cons_zero, Act.put, List.setIfInBounds_toArray, List.set_cons_zero, List.set_cons_succ]
                        (refine wpAnyH_take (i := 6) (v := ?_) rfl (by kernel_rfl) (by kernel_rfl) (by kernel_rfl) (fun _ _ _ h => h) (Or.inl ⟨by rfl, ?_⟩) (by assumption) ?_; rotate_left; · (intro w hSw; go_simp; try with_reducible rfl)); try simp only [List.getElem_toArray, List.getElem_cons_succ, List.getElem_cons_zero, Act.put, List.setIfInBounds_toArray, List.set_cons_zero, List.set_cons_succ]
                        (refine wpAnyH_take (i := 7) (v := ?_) rfl (by kernel_rfl) (by kernel_rfl) (by kernel_rfl) (fun _ _ _ h => h) (Or.inl ⟨by rfl, ?_⟩) (by assumption) ?_; rotate_left; · (intro w hSw; go_simp; try with_reducible rfl)); try simp only [List.getElem_toArray, List.getElem_cons_succ, List.getElem_cons_zero, Act.put, List.setIfInBounds_toArray, List.set_cons_zero, List.set_cons_succ]
                        (refine wpAnyH_take (i := 8) (v := ?_) rfl (by kernel_rfl) (by kernel_rfl) (by kernel_rfl) (fun _ _ _ h => h) (Or.inl ⟨by rfl, ?_⟩) (by assumption) ?_; rotate_left; · (intro w hSw; go_simp; try with_reducible rfl)); try simp only [List.getElem_toArray, List.getElem_cons_succ, List.getElem_cons_zero, Act.put, List.setIfInBounds_toArray, List.set_cons_zero, List.set_cons_succ]
                        refine wpAnyH_take (i := 9) rfl (by kernel_rfl) (by kernel_rfl) (by kernel_rfl) (fun _ _ _ h => h) (yieldsIf_load_mid (by rfl) _ _ rfl _ _ rfl _ _ (fun w h => h.2.1) Tryd.underlying24 rfl hi69) (by assumption) ?_; try simp only [List.getElem_toArray, List.getElem_cons_succ, List.getElem_cons_zero, Act.put, List.setIfInBounds_toArray, List.set_cons_zero, List.set_cons_succ]
                        (refine wpAnyH_take (i := 11) (v := ?_) rfl (by kernel_rfl) (by kernel_rfl) (by kernel_rfl) (fun _ _ _ h => h) (Or.inl ⟨by rfl, ?_⟩) (by assumption) ?_; rotate_left; · (intro w hSw; go_simp; try with_reducible rfl)); try simp only [List.getElem_toArray, List.getElem_cons_succ, List.getElem_cons_zero, Act.put, List.setIfInBounds_toArray, List.set_cons_zero, List.set_cons_succ]
                        (refine wpAnyH_take (i := 12) (v := ?_) rfl (by kernel_rfl) (by kernel_rfl) (by kernel_rfl) (fun _ _ _ h => h) (Or.inl ⟨by rfl, ?_⟩) (by assumption) ?_; rotate_left; · (intro w hSw; go_simp; try with_reducible rfl)); try simp only [List.getElem_toArray, List.getElem_cons_succ, List.getElem_cons_zero, Act.put, List.setIfInBounds_toArray, List.set_cons_zero, List.set_cons_succ]
                        refine wpAnyH_ready (rs := [10]) (by kernel_rfl) (by simp) ?_; refine AllReadyH.cons rfl (fun K hK => ?_) AllReadyH.nil; go_simp
                        refine (hRi.out _).mono ?_
                        rintro e w4 ⟨rfl, hb4⟩
                        refine hK.out _ _ (hSS.out _ (hHeld.1.trans (hb4.mono hHeld.1.size))) (fun hHeld => ?_); clear hK K; try simp only [List.getElem_toArray, List.getElem_cons_succ, List.getElem_cons_zero, Act.put, List.setIfInBounds_toArray, List.set_cons_zero, List.set_cons_succ]
                        (refine wpAnyH_take (i := 13) (v := ?_) rfl (by kernel_rfl) (by kernel_rfl) (by kernel_rfl) (fun _ _ _ h => h) (Or.inl ⟨by rfl, ?_⟩) (by assumption) ?_; rotate_left; · (intro w hSw; go_simp; try with_reducible rfl)); try simp only [List.getElem_toArray, List.getElem_cons_succ, List.getElem_cons_zero, Act.put, List.setIfInBounds_toArray, List.set_cons_zero, List.set_cons_succ]
                        (refine wpAnyH_take (i := 14) (v := ?_) rfl (by kernel_rfl) (by kernel_rfl) (by kernel_rfl) (fun _ _ _ h => h) (Or.inl ⟨by rfl, ?_⟩) (by assumption) ?_; rotate_left; · (intro w hSw; go_simp; try with_reducible rfl)); try simp only [List.getElem_toArray, List.getElem_cons_succ, List.getElem_cons_zero, Act.put, List.setIfInBounds_toArray, List.set_cons_zero, List.set_cons_succ]
                        (refine wpAnyH_take (i := 15) (v := ?_) rfl (by kernel_rfl) (by kernel_rfl) (by kernel_rfl) (fun _ _ _ h => h) (Or.inl ⟨by rfl, ?_⟩) (by assumption) ?_; rotate_left; · (intro w hSw; go_simp; try with_reducible rfl)); try simp only [List.getElem_toArray, List.getElem_cons_succ, List.getElem_cons_zero, Act.put, List.setIfInBounds_toArray, List.set_cons_zero, List.set_cons_succ]
                        refine wpAnyH_take (i := 16) (v := undef) rfl (by kernel_rfl) (by kernel_rfl) (by kernel_rfl) (fun _ _ _ h => h) (Or.inr ⟨by rfl, rfl⟩) (by assumption) ?_; try simp only [List.getElem_toArray, List.getElem_cons_succ, List.getElem_cons_zero, Act.put, List.setIfInBounds_toArray, List.set_cons_zero, List.set_cons_succ]
                        refine wpAnyH_take (i := 17) (v := undef) rfl (by kernel_rfl) (by kernel_rfl) (by kernel_rfl) (fun _ _ _ h => h) (Or.inr ⟨by rfl, rfl⟩) (by assumption) ?_; try simp only [List.getElem_toArray, List.getElem_cons_succ, List.getElem_cons_zero, Act.put, List.setIfInBounds_toArray, List.set_cons_zero, List.set_cons_succ]
                        refine wpAnyH_take (i := 18) (v := undef) rfl (by kernel_rfl) (by kernel_rfl) (by kernel_rfl) (fun _ _ _ h => h) (Or.inr ⟨by rfl, rfl⟩) (by assumption) ?_; try simp only [List.getElem_toArray, List.getElem_cons_succ, List.getElem_cons_zero, Act.put, List.setIfInBounds_toArray, List.set_cons_zero, List.set_cons_succ]
                        (refine wpAnyH_take (i := 19) (v := ?_) rfl (by kernel_rfl) (by kernel_rfl) (by kernel_rfl) (fun _ _ _ h => h) (Or.inl ⟨by rfl, ?_⟩) (by assumption) ?_; rotate_left; · (intro w hSw; go_simp; try with_reducible rfl)); try simp only [List.getElem_toArray, List.getElem_cons_succ, List.getElem_cons_zero, Act.put, List.setIfInBounds_toArray, List.set_cons_zero, List.set_cons_succ]
                        refine wpAnyH_done (by kernel_rfl) ?_ _
                        go_wp2_with (fail)
                        go_meet
                        exact ⟨⟨_, rfl, fun h => by cases h⟩, hHeld.1⟩
                    · refine wp_region_held_drew (S := fun v => Below wr.heap.size wr v ∧ v.rangeAt w.heap.size 0 (rowArr 69 fun i => .int .i64 (g i)).toList ∧ v.cell? ⟨w.heap.size, 65, none⟩ = some (.int .i64 (g 65))) (by kernel_rfl) ?_ (fun hHeld => ?_)
                      · exact hSS.out _ k0
                      refine wpAnyH_take (i := 0) rfl (by kernel_rfl) (by kernel_rfl) (by kernel_rfl) (fun _ _ _ h => h) (yieldsIf_load_mid (by rfl) _ _ rfl _ _ rfl _ _ (fun w h => h.2.1) Tryd.underlying24 rfl hi69) (by assumption) ?_; try simp only [List.getElem_toArray, List.getElem_cons_succ, List.getElem_cons_zero, Act.put, List.setIfInBounds_toArray, List.set_cons_zero, List.set_cons_succ]
                      refine wpAnyH_ready (rs := [1]) (by kernel_rfl) (by simp) ?_; refine AllReadyH.cons rfl (fun K hK => ?_) AllReadyH.nil; go_simp
                      refine (hC0.out _).mono ?_
                      rintro e w2 ⟨rfl, hb2⟩
                      refine hK.out _ _ (hSS.out _ (hHeld.1.trans (hb2.mono hHeld.1.size))) (fun hHeld => ?_); clear hK K; try simp only [List.getElem_toArray, List.getElem_cons_succ, List.getElem_cons_zero, Act.put, List.setIfInBounds_toArray, List.set_cons_zero, List.set_cons_succ]
                      (refine wpAnyH_take (i := 2) (v := ?_) rfl (by kernel_rfl) (by kernel_rfl) (by kernel_rfl) (fun _ _ _ h => h) (Or.inl ⟨by rfl, ?_⟩) (by assumption) ?_; rotate_left; · (intro w hSw; go_simp; try with_reducible rfl)); try simp only [List.getElem_toArray, List.getElem_cons_succ, List.getElem_cons_zero, Act.put, List.setIfInBounds_toArray, List.set_cons_zero, List.set_cons_succ]
                      (refine wpAnyH_take (i := 3) (v := ?_) rfl (by kernel_rfl) (by kernel_rfl) (by kernel_rfl) (fun _ _ _ h => h) (Or.inl ⟨by rfl, ?_⟩) (by assumption) ?_; rotate_left; · (intro w hSw; go_simp; try with_reducible rfl)); try simp only [List.getElem_toArray, List.getElem_cons_succ, List.getElem_cons_zero, Act.put, List.setIfInBounds_toArray, List.set_cons_zero, List.set_cons_succ]
                      refine wpAnyH_take (i := 4) rfl (by kernel_rfl) (by kernel_rfl) (by kernel_rfl) (fun _ _ _ h => h) (yieldsIf_load_mid (by rfl) _ _ rfl _ _ rfl _ _ (fun w h => h.2.1) Tryd.underlying24 rfl hi69) (by assumption) ?_; try simp only [List.getElem_toArray, List.getElem_cons_succ, List.getElem_cons_zero, Act.put, List.setIfInBounds_toArray, List.set_cons_zero, List.set_cons_succ]
                      refine wpAnyH_ready (rs := [5]) (by kernel_rfl) (by simp) ?_; refine AllReadyH.cons rfl (fun K hK => ?_) AllReadyH.nil; go_simp
                      refine (hC1.out _).mono ?_
                      rintro e w3 ⟨rfl, hb3⟩
                      refine hK.out _ _ (hSS.out _ (hHeld.1.trans (hb3.mono hHeld.1.size))) (fun hHeld => ?_); clear hK K; try simp only [List.getElem_toArray, List.getElem_cons_succ, List.getElem_cons_zero, Act.put, List.setIfInBounds_toArray, List.set_cons_zero, List.set_cons_succ]
                      (refine wpAnyH_take (i := 6) (v := ?_) rfl (by kernel_rfl) (by kernel_rfl) (by kernel_rfl) (fun _ _ _ h => h) (Or.inl ⟨by rfl, ?_⟩) (by assumption) ?_; rotate_left; · (intro w hSw; go_simp; try with_reducible rfl)); try simp only [List.getElem_toArray, List.getElem_cons_succ, List.getElem_cons_zero, Act.put, List.setIfInBounds_toArray, List.set_cons_zero, List.set_cons_succ]
                      (refine wpAnyH_take (i := 7) (v := ?_) rfl (by kernel_rfl) (by kernel_rfl) (by kernel_rfl) (fun _ _ _ h => h) (Or.inl ⟨by rfl, ?_⟩) (by assumption) ?_; rotate_left; · (intro w hSw; go_simp; try with_reducible rfl)); try simp only [List.getElem_toArray, List.getElem_cons_succ, List.getElem_cons_zero, Act.put, List.setIfInBounds_toArray, List.set_cons_zero, List.set_cons_succ]
                      (refine wpAnyH_take (i := 8) (v := ?_) rfl (by kernel_rfl) (by kernel_rfl) (by kernel_rfl) (fun _ _ _ h => h) (Or.inl ⟨by rfl, ?_⟩) (by assumption) ?_; rotate_left; · (intro w hSw; go_simp; try with_reducible rfl)); try simp only [List.getElem_toArray, List.getElem_cons_succ, List.getElem_cons_zero, Act.put, List.setIfInBounds_toArray, List.set_cons_zero, List.set_cons_succ]
                      refine wpAnyH_take (i := 9) (v := undef) rfl (by kernel_rfl) (by kernel_rfl) (by kernel_rfl) (fun _ _ _ h => h) (Or.inr ⟨by rfl, rfl⟩) (by assumption) ?_; try simp only [List.getElem_toArray, List.getElem_cons_succ, List.getElem_cons_zero, Act.put, List.setIfInBounds_toArray, List.set_cons_zero, List.set_cons_succ]
                      refine wpAnyH_take (i := 10) (v := undef) rfl (by kernel_rfl) (by kernel_rfl) (by kernel_rfl) (fun _ _ _ h => h) (Or.inr ⟨by rfl, rfl⟩) (by assumption) ?_; try simp only [List.getElem_toArray, List.getElem_cons_succ, List.getElem_cons_zero, Act.put, List.setIfInBounds_toArray, List.set_cons_zero, List.set_cons_succ]
                      refine wpAnyH_take (i := 11) (v := undef) rfl (by kernel_rfl) (by kernel_rfl) (by kernel_rfl) (fun _ _ _ h => h) (Or.inr ⟨by rfl, rfl⟩) (by assumption) ?_; try simp only [List.getElem_toArray, List.getElem_cons_succ, List.getElem_cons_zero, Act.put, List.setIfInBounds_toArray, List.set_cons_zero, List.set_cons_succ]
                      refine wpAnyH_take (i := 12) (v := undef) rfl (by kernel_rfl) (by kernel_rfl) (by kernel_rfl) (fun _ _ _ h => h) (Or.inr ⟨by rfl, rfl⟩) (by assumption) ?_; try simp only [List.getElem_toArray, List.getElem_cons_succ, List.getElem_cons_zero, Act.put, List.setIfInBounds_toArray, List.set_cons_zero, List.set_cons_succ]
                      refine wpAnyH_take (i := 13) (v := undef) rfl (by kernel_rfl) (by kernel_rfl) (by kernel_rfl) (fun _ _ _ h => h) (Or.inr ⟨by rfl, rfl⟩) (by assumption) ?_; try simp only [List.getElem_toArray, List.getElem_cons_succ, List.getElem_cons_zero, Act.put, List.setIfInBounds_toArray, List.set_cons_zero, List.set_cons_succ]
                      (refine wpAnyH_take (i := 14) (v := ?_) rfl (by kernel_rfl) (by kernel_rfl) (by kernel_rfl) (fun _ _ _ h => h) (Or.inl ⟨by rfl, ?_⟩) (by assumption) ?_; rotate_left; · (intro w hSw; go_simp; try with_reducible rfl)); try simp only [List.getElem_toArray, List.getElem_cons_succ, List.getElem_cons_zero, Act.put, List.setIfInBounds_toArray, List.set_cons_zero, List.set_cons_succ]
                      (refine wpAnyH_take (i := 15) (v := ?_) rfl (by kernel_rfl) (by kernel_rfl) (by kernel_rfl) (fun _ _ _ h => h) (Or.inl ⟨by rfl, ?_⟩) (by assumption) ?_; rotate_left; · (intro w hSw; go_simp; try with_reducible rfl)); try simp only [List.getElem_toArray, List.getElem_cons_succ, List.getElem_cons_zero, Act.put, List.setIfInBounds_toArray, List.set_cons_zero, List.set_cons_succ]
                      refine wpAnyH_take (i := 16) (v := undef) rfl (by kernel_rfl) (by kernel_rfl) (by kernel_rfl) (fun _ _ _ h => h) (Or.inr ⟨by rfl, rfl⟩) (by assumption) ?_; try simp only [List.getElem_toArray, List.getElem_cons_succ, List.getElem_cons_zero, Act.put, List.setIfInBounds_toArray, List.set_cons_zero, List.set_cons_succ]
                      refine wpAnyH_take (i := 17) (v := undef) rfl (by kernel_rfl) (by kernel_rfl) (by kernel_rfl) (fun _ _ _ h => h) (Or.inr ⟨by rfl, rfl⟩) (by assumption) ?_; try simp only [List.getElem_toArray, List.getElem_cons_succ, List.getElem_cons_zero, Act.put, List.setIfInBounds_toArray, List.set_cons_zero, List.set_cons_succ]
                      refine wpAnyH_take (i := 18) (v := undef) rfl (by kernel_rfl) (by kernel_rfl) (by kernel_rfl) (fun _ _ _ h => h) (Or.inr ⟨by rfl, rfl⟩) (by assumption) ?_; try simp only [List.getElem_toArray, List.getElem_cons_succ, List.getElem_cons_zero, Act.put, List.setIfInBounds_toArray, List.set_cons_zero, List.set_cons_succ]
                      (refine wpAnyH_take (i := 19) (v := ?_) rfl (by kernel_rfl) (by kernel_rfl) (by kernel_rfl) (fun _ _ _ h => h) (Or.inl ⟨by rfl, ?_⟩) (by assumption) ?_; rotate_left; · (intro w hSw; go_simp; try with_reducible rfl)); try simp only [List.getElem_toArray, List.getElem_cons_succ, List.getElem_cons_zero, Act.put, List.setIfInBounds_toArray, List.set_cons_zero, List.set_cons_succ]
                      refine wpAnyH_done (by kernel_rfl) ?_ _
                      go_wp2_with (fail)
                      go_meet
                      exact ⟨⟨_, rfl, fun h => by cases h⟩, hHeld.1⟩
                  · refine wp_region_held_drew (S := fun v => Below wr.heap.size wr v ∧ v.rangeAt w.heap.size 0 (rowArr 69 fun i => .int .i64 (g i)).toList ∧ v.cell? ⟨w.heap.size, 65, none⟩ = some (.int .i64 (g 65))) (by kernel_rfl) ?_ (fun hHeld => ?_)
                    · exact hSS.out _ k0
                    refine wpAnyH_take (i := 0) rfl (by kernel_rfl) (by kernel_rfl) (by kernel_rfl) (fun _ _ _ h => h) (yieldsIf_load_mid (by rfl) _ _ rfl _ _ rfl _ _ (fun w h => h.2.1) Tryd.underlying24 rfl hi69) (by assumption) ?_; try simp only [List.getElem_toArray, List.getElem_cons_succ, List.getElem_cons_zero, Act.put, List.setIfInBounds_toArray, List.set_cons_zero, List.set_cons_succ]
                    refine wpAnyH_ready (rs := [1]) (by kernel_rfl) (by simp) ?_; refine AllReadyH.cons rfl (fun K hK => ?_) AllReadyH.nil; go_simp
                    refine (hC0.out _).mono ?_
                    rintro e w2 ⟨rfl, hb2⟩
                    refine hK.out _ _ (hSS.out _ (hHeld.1.trans (hb2.mono hHeld.1.size))) (fun hHeld => ?_); clear hK K; try simp only [List.getElem_toArray, List.getElem_cons_succ, List.getElem_cons_zero, Act.put, List.setIfInBounds_toArray, List.set_cons_zero, List.set_cons_succ]
                    (refine wpAnyH_take (i := 2) (v := ?_) rfl (by kernel_rfl) (by kernel_rfl) (by kernel_rfl) (fun _ _ _ h => h) (Or.inl ⟨by rfl, ?_⟩) (by assumption) ?_; rotate_left; · (intro w hSw; go_simp; try with_reducible rfl)); try simp only [List.getElem_toArray, List.getElem_cons_succ, List.getElem_cons_zero, Act.put, List.setIfInBounds_toArray, List.set_cons_zero, List.set_cons_succ]
                    (refine wpAnyH_take (i := 3) (v := ?_) rfl (by kernel_rfl) (by kernel_rfl) (by kernel_rfl) (fun _ _ _ h => h) (Or.inl ⟨by rfl, ?_⟩) (by assumption) ?_; rotate_left; · (intro w hSw; go_simp; try with_reducible rfl)); try simp only [List.getElem_toArray, List.getElem_cons_succ, List.getElem_cons_zero, Act.put, List.setIfInBounds_toArray, List.set_cons_zero, List.set_cons_succ]
                    refine wpAnyH_take (i := 4) (v := undef) rfl (by kernel_rfl) (by kernel_rfl) (by kernel_rfl) (fun _ _ _ h => h) (Or.inr ⟨by rfl, rfl⟩) (by assumption) ?_; try simp only [List.getElem_toArray, List.getElem_cons_succ, List.getElem_cons_zero, Act.put, List.setIfInBounds_toArray, List.set_cons_zero, List.set_cons_succ]
                    refine wpAnyH_take (i := 5) (v := undef) rfl (by kernel_rfl) (by kernel_rfl) (by kernel_rfl) (fun _ _ _ h => h) (Or.inr ⟨by rfl, rfl⟩) (by assumption) ?_; try simp only [List.getElem_toArray, List.getElem_cons_succ, List.getElem_cons_zero, Act.put, List.setIfInBounds_toArray, List.set_cons_zero, List.set_cons_succ]
                    refine wpAnyH_take (i := 6) (v := undef) rfl (by kernel_rfl) (by kernel_rfl) (by kernel_rfl) (fun _ _ _ h => h) (Or.inr ⟨by rfl, rfl⟩) (by assumption) ?_; try simp only [List.getElem_toArray, List.getElem_cons_succ, List.getElem_cons_zero, Act.put, List.setIfInBounds_toArray, List.set_cons_zero, List.set_cons_succ]
                    (refine wpAnyH_take (i := 7) (v := ?_) rfl (by kernel_rfl) (by kernel_rfl) (by kernel_rfl) (fun _ _ _ h => h) (Or.inl ⟨by rfl, ?_⟩) (by assumption) ?_; rotate_left; · (intro w hSw; go_simp; try with_reducible rfl)); try simp only [List.getElem_toArray, List.getElem_cons_succ, List.getElem_cons_zero, Act.put, List.setIfInBounds_toArray, List.set_cons_zero, List.set_cons_succ]
                    (refine wpAnyH_take (i := 8) (v := ?_) rfl (by kernel_rfl) (by kernel_rfl) (by kernel_rfl) (fun _ _ _ h => h) (Or.inl ⟨by rfl, ?_⟩) (by assumption) ?_; rotate_left; · (intro w hSw; go_simp; try with_reducible rfl)); try simp only [List.getElem_toArray, List.getElem_cons_succ, List.getElem_cons_zero, Act.put, List.setIfInBounds_toArray, List.set_cons_zero, List.set_cons_succ]
                    refine wpAnyH_take (i := 9) (v := undef) rfl (by kernel_rfl) (by kernel_rfl) (by kernel_rfl) (fun _ _ _ h => h) (Or.inr ⟨by rfl, rfl⟩) (by assumption) ?_; try simp only [List.getElem_toArray, List.getElem_cons_succ, List.getElem_cons_zero, Act.put, List.setIfInBounds_toArray, List.set_cons_zero, List.set_cons_succ]
                    refine wpAnyH_take (i := 10) (v := undef) rfl (by kernel_rfl) (by kernel_rfl) (by kernel_rfl) (fun _ _ _ h => h) (Or.inr ⟨by rfl, rfl⟩) (by assumption) ?_; try simp only [List.getElem_toArray, List.getElem_cons_succ, List.getElem_cons_zero, Act.put, List.setIfInBounds_toArray, List.set_cons_zero, List.set_cons_succ]
                    refine wpAnyH_take (i := 11) (v := undef) rfl (by kernel_rfl) (by kernel_rfl) (by kernel_rfl) (fun _ _ _ h => h) (Or.inr ⟨by rfl, rfl⟩) (by assumption) ?_; try simp only [List.getElem_toArray, List.getElem_cons_succ, List.getElem_cons_zero, Act.put, List.setIfInBounds_toArray, List.set_cons_zero, List.set_cons_succ]
                    refine wpAnyH_take (i := 12) (v := undef) rfl (by kernel_rfl) (by kernel_rfl) (by kernel_rfl) (fun _ _ _ h => h) (Or.inr ⟨by rfl, rfl⟩) (by assumption) ?_; try simp only [List.getElem_toArray, List.getElem_cons_succ, List.getElem_cons_zero, Act.put, List.setIfInBounds_toArray, List.set_cons_zero, List.set_cons_succ]
                    refine wpAnyH_take (i := 13) (v := undef) rfl (by kernel_rfl) (by kernel_rfl) (by kernel_rfl) (fun _ _ _ h => h) (Or.inr ⟨by rfl, rfl⟩) (by assumption) ?_; try simp only [List.getElem_toArray, List.getElem_cons_succ, List.getElem_cons_zero, Act.put, List.setIfInBounds_toArray, List.set_cons_zero, List.set_cons_succ]
                    (refine wpAnyH_take (i := 14) (v := ?_) rfl (by kernel_rfl) (by kernel_rfl) (by kernel_rfl) (fun _ _ _ h => h) (Or.inl ⟨by rfl, ?_⟩) (by assumption) ?_; rotate_left; · (intro w hSw; go_simp; try with_reducible rfl)); try simp only [List.getElem_toArray, List.getElem_cons_succ, List.getElem_cons_zero, Act.put, List.setIfInBounds_toArray, List.set_cons_zero, List.set_cons_succ]
                    (refine wpAnyH_take (i := 15) (v := ?_) rfl (by kernel_rfl) (by kernel_rfl) (by kernel_rfl) (fun _ _ _ h => h) (Or.inl ⟨by rfl, ?_⟩) (by assumption) ?_; rotate_left; · (intro w hSw; go_simp; try with_reducible rfl)); try simp only [List.getElem_toArray, List.getElem_cons_succ, List.getElem_cons_zero, Act.put, List.setIfInBounds_toArray, List.set_cons_zero, List.set_cons_succ]
                    refine wpAnyH_take (i := 16) (v := undef) rfl (by kernel_rfl) (by kernel_rfl) (by kernel_rfl) (fun _ _ _ h => h) (Or.inr ⟨by rfl, rfl⟩) (by assumption) ?_; try simp only [List.getElem_toArray, List.getElem_cons_succ, List.getElem_cons_zero, Act.put, List.setIfInBounds_toArray, List.set_cons_zero, List.set_cons_succ]
                    refine wpAnyH_take (i := 17) (v := undef) rfl (by kernel_rfl) (by kernel_rfl) (by kernel_rfl) (fun _ _ _ h => h) (Or.inr ⟨by rfl, rfl⟩) (by assumption) ?_; try simp only [List.getElem_toArray, List.getElem_cons_succ, List.getElem_cons_zero, Act.put, List.setIfInBounds_toArray, List.set_cons_zero, List.set_cons_succ]
                    refine wpAnyH_take (i := 18) (v := undef) rfl (by kernel_rfl) (by kernel_rfl) (by kernel_rfl) (fun _ _ _ h => h) (Or.inr ⟨by rfl, rfl⟩) (by assumption) ?_; try simp only [List.getElem_toArray, List.getElem_cons_succ, List.getElem_cons_zero, Act.put, List.setIfInBounds_toArray, List.set_cons_zero, List.set_cons_succ]
                    (refine wpAnyH_take (i := 19) (v := ?_) rfl (by kernel_rfl) (by kernel_rfl) (by kernel_rfl) (fun _ _ _ h => h) (Or.inl ⟨by rfl, ?_⟩) (by assumption) ?_; rotate_left; · (intro w hSw; go_simp; try with_reducible rfl)); try simp only [List.getElem_toArray, List.getElem_cons_succ, List.getElem_cons_zero, Act.put, List.setIfInBounds_toArray, List.set_cons_zero, List.set_cons_succ]
                    refine wpAnyH_done (by kernel_rfl) ?_ _
                    go_wp2_with (fail)
                    go_meet
                    exact ⟨⟨_, rfl, fun h => by cases h⟩, hHeld.1⟩
                case rest =>
                  obtain ⟨⟨b, rfl, hbb⟩, hBc⟩ := hcut
                  have hb9 := hb.trans (hBc.mono (Nat.le_of_lt hld))
                  have hr9 := rowIs_below hr hBc hld
                  clear hr hb hBc c64 c65 c67 c68
                  cases b
                  · obtain ⟨n0, n1, n2, n3⟩ := hbb rfl
                    obtain ⟨q, rfl⟩ : ∃ q : Nat, K = q := ⟨K.toNat, by have := hKN.out (by first | exact (by omega : N0 = 1) | exact (by omega : N1 = 1)); omega⟩
                    have hq64 : q < 64 := by have := hKr.out; omega
                    have hAq := Lib.hid (hAt.out q hq64)
                    have hFin := Lib.hid (fun e => hEnd.out (by omega) (by omega) n2 n3 e)
                    rw [Int.toNat_natCast] at hFin
                    generalize attB g q 0 = A at *
                    have d64 : wc.cell? ⟨w.heap.size, 64, none⟩ = some (.int .i64 (g 64)) := hr9.cell (i := 64) (by omega)
                    clear hKN hKr hAt hEnd hC0 hC1 hRi hPa n0 n1 n2 n3 hbb
                    have hld9 := hr9.lt
                    go_upto_region 11 with (fail)
                    have hi69 : (Tryd.prog.info? 24).map (·.size) = some (rowArr 69 fun i => Value.int .i64 (g i)).toList.length := by rw [infoPos', Array.length_toList, rowArr_size]
                    have k0 : Below wc.heap.size wc wc.drew := ⟨rfl, rfl, rfl, Nat.le_refl _, fun _ _ => rfl⟩
                    have hSS : ∀ wz, Below wc.heap.size wc wz → Below wc.heap.size wc wz ∧ wz.rangeAt w.heap.size 0 (rowArr 69 fun i => .int .i64 (g i)).toList ∧ wz.cell? ⟨w.heap.size, 64, none⟩ = some (.int .i64 0) := fun wz h => ⟨h, pos_range (rowIs_below hr9 h hld9), by rw [h.cell hld9, d64, show g 64 = 0 from by simpa using y0]⟩
                    replace hSS := Lib.hid hSS
                    refine wp_region_held_drew (S := fun v => Below wc.heap.size wc v ∧ v.rangeAt w.heap.size 0 (rowArr 69 fun i => .int .i64 (g i)).toList ∧ v.cell? ⟨w.heap.size, 64, none⟩ = some (.int .i64 0)) (by kernel_rfl) ?_ (fun hHeld => ?_)
                    · exact hSS.out _ k0
                    refine wpAnyH_take (i := 0) rfl (by kernel_rfl) (by kernel_rfl) (by kernel_rfl) (fun _ _ _ h => h) (yieldsIf_load_mid (by rfl) _ _ rfl _ _ rfl _ _ (fun w h => h.2.1) Tryd.underlying24 rfl hi69) (by assumption) ?_; try simp only [List.getElem_toArray, List.getElem_cons_succ, List.getElem_cons_zero, Act.put, List.setIfInBounds_toArray, List.set_cons_zero, List.set_cons_succ]
                    refine wpAnyH_take (i := 1) rfl (by kernel_rfl) (by kernel_rfl) (by kernel_rfl) (fun _ _ _ h => h) (yieldsIf_load_mid (by rfl) _ _ rfl _ _ rfl _ _ (fun w h => h.2.1) Tryd.underlying24 rfl hi69) (by assumption) ?_; try simp only [List.getElem_toArray, List.getElem_cons_succ, List.getElem_cons_zero, Act.put, List.setIfInBounds_toArray, List.set_cons_zero, List.set_cons_succ]
                    (refine wpAnyH_take (i := 2) (v := ?_) rfl (by kernel_rfl) (by kernel_rfl) (by kernel_rfl) (fun _ _ _ h => h) (Or.inl ⟨by rfl, ?_⟩) (by assumption) ?_; rotate_left; · (intro w hSw; go_simp; try with_reducible rfl)); try simp only [List.getElem_toArray, List.getElem_cons_succ, List.getElem_cons_zero, Act.put, List.setIfInBounds_toArray, List.set_cons_zero, List.set_cons_succ]
                    (refine wpAnyH_take (i := 3) (v := ?_) rfl (by kernel_rfl) (by kernel_rfl) (by kernel_rfl) (fun _ _ _ h => h) (Or.inl ⟨by rfl, ?_⟩) (by assumption) ?_; rotate_left; · (intro w hSw; go_simp; try with_reducible rfl)); try simp only [List.getElem_toArray, List.getElem_cons_succ, List.getElem_cons_zero, Act.put, List.setIfInBounds_toArray, List.set_cons_zero, List.set_cons_succ]
                    (refine wpAnyH_take (i := 4) (v := ?_) rfl (by kernel_rfl) (by kernel_rfl) (by kernel_rfl) (fun _ _ _ h => h) (Or.inl ⟨by rfl, ?_⟩) (by assumption) ?_; rotate_left; · (intro w hSw; go_simp; try with_reducible rfl)); try simp only [List.getElem_toArray, List.getElem_cons_succ, List.getElem_cons_zero, Act.put, List.setIfInBounds_toArray, List.set_cons_zero, List.set_cons_succ]
                    (refine wpAnyH_take (i := 6) (v := ?_) rfl (by kernel_rfl) (by kernel_rfl) (by kernel_rfl) (fun _ _ _ h => h) (Or.inl ⟨by rfl, ?_⟩) (by assumption) ?_; rotate_left; · (intro w hSw; go_simp; try with_reducible rfl)); try simp only [List.getElem_toArray, List.getElem_cons_succ, List.getElem_cons_zero, Act.put, List.setIfInBounds_toArray, List.set_cons_zero, List.set_cons_succ]
                    (refine wpAnyH_take (i := 7) (v := ?_) rfl (by kernel_rfl) (by kernel_rfl) (by kernel_rfl) (fun _ _ _ h => h) (Or.inl ⟨by rfl, ?_⟩) (by assumption) ?_; rotate_left; · (intro w hSw; go_simp; try with_reducible rfl)); try simp only [List.getElem_toArray, List.getElem_cons_succ, List.getElem_cons_zero, Act.put, List.setIfInBounds_toArray, List.set_cons_zero, List.set_cons_succ]
                    refine wpAnyH_ready (rs := [5]) (by kernel_rfl) (by simp) ?_; refine AllReadyH.cons rfl (fun K hK => ?_) AllReadyH.nil; go_simp
                    refine (hKg.out _).mono ?_
                    rintro e w2 ⟨rfl, hb2⟩
                    refine hK.out _ _ (hSS.out _ (hHeld.1.trans (hb2.mono hHeld.1.size))) (fun hHeld => ?_); clear hK K; try simp only [List.getElem_toArray, List.getElem_cons_succ, List.getElem_cons_zero, Act.put, List.setIfInBounds_toArray, List.set_cons_zero, List.set_cons_succ]
                    refine wpAnyH_ready (rs := [8]) (by kernel_rfl) (by simp) ?_; refine AllReadyH.cons rfl (fun K hK => ?_) AllReadyH.nil; go_simp
                    refine (hAq.out _).mono ?_
                    rintro e w3 ⟨rfl, hb3⟩
                    refine hK.out _ _ (hSS.out _ (hHeld.1.trans (hb3.mono hHeld.1.size))) (fun hHeld => ?_); clear hK K; try simp only [List.getElem_toArray, List.getElem_cons_succ, List.getElem_cons_zero, Act.put, List.setIfInBounds_toArray, List.set_cons_zero, List.set_cons_succ]
                    (refine wpAnyH_take (i := 9) (v := ?_) rfl (by kernel_rfl) (by kernel_rfl) (by kernel_rfl) (fun _ _ _ h => h) (Or.inl ⟨by rfl, ?_⟩) (by assumption) ?_; rotate_left; · (intro w hSw; go_simp; try with_reducible rfl)); try simp only [List.getElem_toArray, List.getElem_cons_succ, List.getElem_cons_zero, Act.put, List.setIfInBounds_toArray, List.set_cons_zero, List.set_cons_succ]
                    (refine wpAnyH_take (i := 10) (v := ?_) rfl (by kernel_rfl) (by kernel_rfl) (by kernel_rfl) (fun _ _ _ h => h) (Or.inl ⟨by rfl, ?_⟩) (by assumption) ?_; rotate_left; · (intro w hSw; go_simp; try with_reducible rfl)); try simp only [List.getElem_toArray, List.getElem_cons_succ, List.getElem_cons_zero, Act.put, List.setIfInBounds_toArray, List.set_cons_zero, List.set_cons_succ]
                    refine wpAnyH_done (by kernel_rfl) ?_ _
                    go_wp2_with (fail)
                    go_ret
                    exact ⟨⟨_, rfl, fun h => hFin.out (by simpa using h)⟩, hb9.trans (hHeld.1.mono (Nat.le_of_lt hld9))⟩
                  · go_wp2_with (fail)
                    go_ret
                    exact ⟨hno.out, hb9⟩
                -- END0
              · go_wp2_with (fail)
                go_ret
                exact ⟨hno.out, hb⟩
            · go_wp2_with (fail)
              go_ret
              exact ⟨hno.out, hb⟩
          · go_wp2_with (fail)
            go_ret
            exact ⟨hno.out, hb⟩
        · go_wp2_with (fail)
          go_ret
          exact ⟨hno.out, hb⟩
      · cases y1 : (g 64 != 1)
        · cases y2 : decide (g 65 < 0)
          · cases y3 : decide (15 < g 65)
            · cases y4 : decide (g 67 < 0)
              · cases y5 : decide (g 68 < 1)
                · -- PLACE1
                  have hld := hr.lt
                  have hcc : g 64 = 1 := by simpa using y1
                  have hC0 := Lib.hid (fun w => count_any g 1 0 (by omega) (by omega) (by omega) (by omega) w)
                  have hC1 := Lib.hid (fun w => count_any g 1 1 (by omega) (by omega) (by omega) (by omega) w)
                  have hRi := Lib.hid (fun w => rights_any g w)
                  have hPa := Lib.hid (fun w => passed_any g (by omega) w)
                  have hKg := Lib.hid (fun w => kingAt_any g (1 - 1) (by omega) (by omega) w)
                  have hAt := fun (q : Nat) (hq : q < 64) w => attacked_any g hg.out q hq 1 (by omega) (by omega) w
                  unfold intRow at hC0 hC1 hRi hPa hKg hAt
                  replace hAt := Lib.hid hAt
                  have hEnd : cnt (fun i => g i == 1 + 6 * 0) 64 = 1 → cnt (fun i => g i == 1 + 6 * 1) 64 = 1 → rightsG g = g 65 → EpOk g → attB g (kingAt g (1 - 1)).toNat 1 = false → VG g := fun e0 e1 e2 e3 e4 =>
                    ⟨hg.out, by omega, ⟨by simpa using y2, by simpa using y3⟩, e3.range, by simpa using y4, by have := of_decide_eq_false y5; omega, ⟨king_of_cnt g 0 e0, king_of_cnt g 1 e1⟩, ⟨e0, e1⟩, e2, by rw [hcc]; exact e4, e3⟩
                  have hKN := fun e : cnt (fun i => g i == 1 + 6 * (1 - 1)) 64 = 1 => king_of_cnt g (1 - 1) e
                  have hKr := kingAt_range g (1 - 1)
                  replace hEnd := Lib.hid hEnd
                  simp only [show (1 : Int) - 1 = 0 from rfl] at hKg hEnd hKN hKr
                  generalize hk : kingAt g 0 = K at *
                  generalize hn0 : cnt (fun i => g i == 1 + 6 * 0) 64 = N0 at *
                  generalize hn1 : cnt (fun i => g i == 1 + 6 * 1) 64 = N1 at *
                  generalize rightsG g = RG at *
                  replace hKN := Lib.hid hKN
                  replace hKr := Lib.hid hKr
                  rw [hcc] at c64
                  clear hn0 hn1 hk hcc hg
                  go_upto_region 9 with (fail)
                  go_cut [85] from 66 to 85 (fun x wx => (∃ b, x = .bool b ∧ (b = false → (N0 : Int) = 1 ∧ (N1 : Int) = 1 ∧ RG = g 65 ∧ EpOk g)) ∧ Below wr.heap.size wr wx)
                  case first =>
                    have hi69 : (Tryd.prog.info? 24).map (·.size) = some (rowArr 69 fun i => Value.int .i64 (g i)).toList.length := by rw [infoPos', Array.length_toList, rowArr_size]
                    have k0 : Below wr.heap.size wr wr.drew := ⟨rfl, rfl, rfl, Nat.le_refl _, fun _ _ => rfl⟩
                    have hSS : ∀ wz, Below wr.heap.size wr wz → Below wr.heap.size wr wz ∧ wz.rangeAt w.heap.size 0 (rowArr 69 fun i => .int .i64 (g i)).toList ∧ wz.cell? ⟨w.heap.size, 65, none⟩ = some (.int .i64 (g 65)) := fun wz h => ⟨h, pos_range (rowIs_below hr h hld), by rw [h.cell hld]; exact c65⟩
                    replace hSS := Lib.hid hSS
                    cases x0 : ((N0 : Int) != 1)
                    · cases x1 : ((N1 : Int) != 1)
                      · cases x2 : (RG != g 65)
                        · refine wp_region_held_drew (S := fun v => Below wr.heap.size wr v ∧ v.rangeAt w.heap.size 0 (rowArr 69 fun i => .int .i64 (g i)).toList ∧ v.cell? ⟨w.heap.size, 65, none⟩ = some (.int .i64 (g 65))) (by kernel_rfl) ?_ (fun hHeld => ?_)
                          · exact hSS.out _ k0
                          refine wpAnyH_take (i := 0) rfl (by kernel_rfl) (by kernel_rfl) (by kernel_rfl) (fun _ _ _ h => h) (yieldsIf_load_mid (by rfl) _ _ rfl _ _ rfl _ _ (fun w h => h.2.1) Tryd.underlying24 rfl hi69) (by assumption) ?_; try simp only [List.getElem_toArray, List.getElem_cons_succ, List.getElem_cons_zero, Act.put, List.setIfInBounds_toArray, List.set_cons_zero, List.set_cons_succ]
                          refine wpAnyH_ready (rs := [1]) (by kernel_rfl) (by simp) ?_; refine AllReadyH.cons rfl (fun K hK => ?_) AllReadyH.nil; go_simp
                          refine (hC0.out _).mono ?_
                          rintro e w2 ⟨rfl, hb2⟩
                          refine hK.out _ _ (hSS.out _ (hHeld.1.trans (hb2.mono hHeld.1.size))) (fun hHeld => ?_); clear hK K; try simp only [List.getElem_toArray, List.getElem_cons_succ, List.getElem_cons_zero, Act.put, List.setIfInBounds_toArray, List.set_cons_zero, List.set_cons_succ]
                          (refine wpAnyH_take (i := 2) (v := ?_) rfl (by kernel_rfl) (by kernel_rfl) (by kernel_rfl) (fun _ _ _ h => h) (Or.inl ⟨by rfl, ?_⟩) (by assumption) ?_; rotate_left; · (intro w hSw; go_simp; try with_reducible rfl)); try simp only [List.getElem_toArray, List.getElem_cons_succ, List.getElem_cons_zero, Act.put, List.setIfInBounds_toArray, List.set_cons_zero, List.set_cons_succ]
                          (refine wpAnyH_take (i := 3) (v := ?_) rfl (by kernel_rfl) (by kernel_rfl) (by kernel_rfl) (fun _ _ _ h => h) (Or.inl ⟨by rfl, ?_⟩) (by assumption) ?_; rotate_left; · (intro w hSw; go_simp; try with_reducible rfl)); try simp only [List.getElem_toArray, List.getElem_cons_succ, List.getElem_cons_zero, Act.put, List.setIfInBounds_toArray, List.set_cons_zero, List.set_cons_succ]
                          refine wpAnyH_take (i := 4) rfl (by kernel_rfl) (by kernel_rfl) (by kernel_rfl) (fun _ _ _ h => h) (yieldsIf_load_mid (by rfl) _ _ rfl _ _ rfl _ _ (fun w h => h.2.1) Tryd.underlying24 rfl hi69) (by assumption) ?_; try simp only [List.getElem_toArray, List.getElem_cons_succ, List.getElem_cons_zero, Act.put, List.setIfInBounds_toArray, List.set_cons_zero, List.set_cons_succ]
                          refine wpAnyH_ready (rs := [5]) (by kernel_rfl) (by simp) ?_; refine AllReadyH.cons rfl (fun K hK => ?_) AllReadyH.nil; go_simp
                          refine (hC1.out _).mono ?_
                          rintro e w3 ⟨rfl, hb3⟩
                          refine hK.out _ _ (hSS.out _ (hHeld.1.trans (hb3.mono hHeld.1.size))) (fun hHeld => ?_); clear hK K; try simp only [List.getElem_toArray, List.getElem_cons_succ, List.getElem_cons_zero, Act.put, List.setIfInBounds_toArray, List.set_cons_zero, List.set_cons_succ]
                          (refine wpAnyH_take (i := 6) (v := ?_) rfl (by kernel_rfl) (by kernel_rfl) (by kernel_rfl) (fun _ _ _ h => h) (Or.inl ⟨by rfl, ?_⟩) (by assumption) ?_; rotate_left; · (intro w hSw; go_simp; try with_reducible rfl)); try simp only [List.getElem_toArray, List.getElem_cons_succ, List.getElem_cons_zero, Act.put, List.setIfInBounds_toArray, List.set_cons_zero, List.set_cons_succ]
                          (refine wpAnyH_take (i := 7) (v := ?_) rfl (by kernel_rfl) (by kernel_rfl) (by kernel_rfl) (fun _ _ _ h => h) (Or.inl ⟨by rfl, ?_⟩) (by assumption) ?_; rotate_left; · (intro w hSw; go_simp; try with_reducible rfl)); try simp only [List.getElem_toArray, List.getElem_cons_succ, List.getElem_cons_zero, Act.put, List.setIfInBounds_toArray, List.set_cons_zero, List.set_cons_succ]
                          (refine wpAnyH_take (i := 8) (v := ?_) rfl (by kernel_rfl) (by kernel_rfl) (by kernel_rfl) (fun _ _ _ h => h) (Or.inl ⟨by rfl, ?_⟩) (by assumption) ?_; rotate_left; · (intro w hSw; go_simp; try with_reducible rfl)); try simp only [List.getElem_toArray, List.getElem_cons_succ, List.getElem_cons_zero, Act.put, List.setIfInBounds_toArray, List.set_cons_zero, List.set_cons_succ]
                          refine wpAnyH_take (i := 9) rfl (by kernel_rfl) (by kernel_rfl) (by kernel_rfl) (fun _ _ _ h => h) (yieldsIf_load_mid (by rfl) _ _ rfl _ _ rfl _ _ (fun w h => h.2.1) Tryd.underlying24 rfl hi69) (by assumption) ?_; try simp only [List.getElem_toArray, List.getElem_cons_succ, List.getElem_cons_zero, Act.put, List.setIfInBounds_toArray, List.set_cons_zero, List.set_cons_succ]
                          (refine wpAnyH_take (i := 11) (v := ?_) rfl (by kernel_rfl) (by kernel_rfl) (by kernel_rfl) (fun _ _ _ h => h) (Or.inl ⟨by rfl, ?_⟩) (by assumption) ?_; rotate_left; · (intro w hSw; go_simp; try with_reducible rfl)); try simp only [List.getElem_toArray, List.getElem_cons_succ, List.getElem_cons_zero, Act.put, List.setIfInBounds_toArray, List.set_cons_zero, List.set_cons_succ]
                          (refine wpAnyH_take (i := 12) (v := ?_) rfl (by kernel_rfl) (by kernel_rfl) (by kernel_rfl) (fun _ _ _ h => h) (Or.inl ⟨by rfl, ?_⟩) (by assumption) ?_; rotate_left; · (intro w hSw; go_simp; try with_reducible rfl)); try simp only [List.getElem_toArray, List.getElem_cons_succ, List.getElem_cons_zero, Act.put, List.setIfInBounds_toArray, List.set_cons_zero, List.set_cons_succ]
                          refine wpAnyH_ready (rs := [10]) (by kernel_rfl) (by simp) ?_; refine AllReadyH.cons rfl (fun K hK => ?_) AllReadyH.nil; go_simp
                          refine (hRi.out _).mono ?_
                          rintro e w4 ⟨rfl, hb4⟩
                          refine hK.out _ _ (hSS.out _ (hHeld.1.trans (hb4.mono hHeld.1.size))) (fun hHeld => ?_); clear hK K; try simp only [List.getElem_toArray, List.getElem_cons_succ, List.getElem_cons_zero, Act.put, List.setIfInBounds_toArray, List.set_cons_zero, List.set_cons_succ]
                          (refine wpAnyH_take (i := 13) (v := ?_) rfl (by kernel_rfl) (by kernel_rfl) (by kernel_rfl) (fun _ _ _ h => h) (Or.inl ⟨by rfl, ?_⟩) (by assumption) ?_; rotate_left; · (intro w hSw; go_simp; try with_reducible rfl)); try simp only [List.getElem_toArray, List.getElem_cons_succ, List.getElem_cons_zero, Act.put, List.setIfInBounds_toArray, List.set_cons_zero, List.set_cons_succ]
                          (refine wpAnyH_take (i := 14) (v := ?_) rfl (by kernel_rfl) (by kernel_rfl) (by kernel_rfl) (fun _ _ _ h => h) (Or.inl ⟨by rfl, ?_⟩) (by assumption) ?_; rotate_left; · (intro w hSw; go_simp; try with_reducible rfl)); try simp only [List.getElem_toArray, List.getElem_cons_succ, List.getElem_cons_zero, Act.put, List.setIfInBounds_toArray, List.set_cons_zero, List.set_cons_succ]
                          (refine wpAnyH_take (i := 15) (v := ?_) rfl (by kernel_rfl) (by kernel_rfl) (by kernel_rfl) (fun _ _ _ h => h) (Or.inl ⟨by rfl, ?_⟩) (by assumption) ?_; rotate_left; · (intro w hSw; go_simp; try with_reducible rfl)); try simp only [List.getElem_toArray, List.getElem_cons_succ, List.getElem_cons_zero, Act.put, List.setIfInBounds_toArray, List.set_cons_zero, List.set_cons_succ]
                          refine wpAnyH_take (i := 16) rfl (by kernel_rfl) (by kernel_rfl) (by kernel_rfl) (fun _ _ _ h => h) (yieldsIf_load_mid (by rfl) _ _ rfl _ _ rfl _ _ (fun w h => h.2.1) Tryd.underlying24 rfl hi69) (by assumption) ?_; try simp only [List.getElem_toArray, List.getElem_cons_succ, List.getElem_cons_zero, Act.put, List.setIfInBounds_toArray, List.set_cons_zero, List.set_cons_succ]
                          refine wpAnyH_ready (rs := [17]) (by kernel_rfl) (by simp) ?_; refine AllReadyH.cons rfl (fun K hK => ?_) AllReadyH.nil; go_simp
                          refine (hPa.out _).mono ?_
                          rintro e w5 ⟨⟨y, rfl, hy⟩, hb5⟩
                          refine hK.out _ _ (hSS.out _ (hHeld.1.trans (hb5.mono hHeld.1.size))) (fun hHeld => ?_); clear hK K; try simp only [List.getElem_toArray, List.getElem_cons_succ, List.getElem_cons_zero, Act.put, List.setIfInBounds_toArray, List.set_cons_zero, List.set_cons_succ]
                          (refine wpAnyH_take (i := 18) (v := ?_) rfl (by kernel_rfl) (by kernel_rfl) (by kernel_rfl) (fun _ _ _ h => h) (Or.inl ⟨by rfl, ?_⟩) (by assumption) ?_; rotate_left; · (intro w hSw; go_simp; try with_reducible rfl)); try simp only [List.getElem_toArray, List.getElem_cons_succ, List.getElem_cons_zero, Act.put, List.setIfInBounds_toArray, List.set_cons_zero, List.set_cons_succ]
                          (refine wpAnyH_take (i := 19) (v := ?_) rfl (by kernel_rfl) (by kernel_rfl) (by kernel_rfl) (fun _ _ _ h => h) (Or.inl ⟨by rfl, ?_⟩) (by assumption) ?_; rotate_left; · (intro w hSw; go_simp; try with_reducible rfl)); try simp only [List.getElem_toArray, List.getElem_cons_succ, List.getElem_cons_zero, Act.put, List.setIfInBounds_toArray, List.set_cons_zero, List.set_cons_succ]
                          refine wpAnyH_done (by kernel_rfl) ?_ _
                          go_wp2_with (fail)
                          go_meet
                          exact ⟨⟨_, rfl, fun h => ⟨by simpa using x0, by simpa using x1, by simpa using x2, hy (by simpa using h)⟩⟩, hHeld.1⟩
                        · refine wp_region_held_drew (S := fun v => Below wr.heap.size wr v ∧ v.rangeAt w.heap.size 0 (rowArr 69 fun i => .int .i64 (g i)).toList ∧ v.cell? ⟨w.heap.size, 65, none⟩ = some (.int .i64 (g 65))) (by kernel_rfl) ?_ (fun hHeld => ?_)
                          · exact hSS.out _ k0
                          refine wpAnyH_take (i := 0) rfl (by kernel_rfl) (by kernel_rfl) (by kernel_rfl) (fun _ _ _ h => h) (yieldsIf_load_mid (by rfl) _ _ rfl _ _ rfl _ _ (fun w h => h.2.1) Tryd.underlying24 rfl hi69) (by assumption) ?_; try simp only [List.getElem_toArray, List.getElem_cons_succ, List.getElem_cons_zero, Act.put, List.setIfInBounds_toArray, List.set_cons_zero, List.set_cons_succ]
                          refine wpAnyH_ready (rs := [1]) (by kernel_rfl) (by simp) ?_; refine AllReadyH.cons rfl (fun K hK => ?_) AllReadyH.nil; go_simp
                          refine (hC0.out _).mono ?_
                          rintro e w2 ⟨rfl, hb2⟩
                          refine hK.out _ _ (hSS.out _ (hHeld.1.trans (hb2.mono hHeld.1.size))) (fun hHeld => ?_); clear hK K; try simp only [List.getElem_toArray, List.getElem_cons_succ, List.getElem_cons_zero, Act.put, List.setIfInBounds_toArray, List.set_cons_zero, List.set_cons_succ]
                          (refine wpAnyH_take (i := 2) (v := ?_) rfl (by kernel_rfl) (by kernel_rfl) (by kernel_rfl) (fun _ _ _ h => h) (Or.inl ⟨by rfl, ?_⟩) (by assumption) ?_; rotate_left; · (intro w hSw; go_simp; try with_reducible rfl)); try simp only [List.getElem_toArray, List.getElem_cons_succ, List.getElem_cons_zero, Act.put, List.setIfInBounds_toArray, List.set_cons_zero, List.set_cons_succ]
                          (refine wpAnyH_take (i := 3) (v := ?_) rfl (by kernel_rfl) (by kernel_rfl) (by kernel_rfl) (fun _ _ _ h => h) (Or.inl ⟨by rfl, ?_⟩) (by assumption) ?_; rotate_left; · (intro w hSw; go_simp; try with_reducible rfl)); try simp only [List.getElem_toArray, List.getElem_cons_succ, List.getElem_cons_zero, Act.put, List.setIfInBounds_toArray, List.set_cons_zero, List.set_cons_succ]
                          refine wpAnyH_take (i := 4) rfl (by kernel_rfl) (by kernel_rfl) (by kernel_rfl) (fun _ _ _ h => h) (yieldsIf_load_mid (by rfl) _ _ rfl _ _ rfl _ _ (fun w h => h.2.1) Tryd.underlying24 rfl hi69) (by assumption) ?_; try simp only [List.getElem_toArray, List.getElem_cons_succ, List.getElem_cons_zero, Act.put, List.setIfInBounds_toArray, List.set_cons_zero, List.set_cons_succ]
                          refine wpAnyH_ready (rs := [5]) (by kernel_rfl) (by simp) ?_; refine AllReadyH.cons rfl (fun K hK => ?_) AllReadyH.nil; go_simp
                          refine (hC1.out _).mono ?_
                          rintro e w3 ⟨rfl, hb3⟩
                          refine hK.out _ _ (hSS.out _ (hHeld.1.trans (hb3.mono hHeld.1.size))) (fun hHeld => ?_); clear hK K; try simp only [List.getElem_toArray, List.getElem_cons_succ, List.getElem_cons_zero, Act.put, List.setIfInBounds_toArray, List.set_cons_zero, List.set_cons_succ]
                          (refine wpAnyH_take (i := 6) (v := ?_) rfl (by kernel_rfl) (by kernel_rfl) (by kernel_rfl) (fun _ _ _ h => h) (Or.inl ⟨by rfl, ?_⟩) (by assumption) ?_; rotate_left; · (intro w hSw; go_simp; try with_reducible rfl)); try simp only [List.getElem_toArray, List.getElem_cons_succ, List.getElem_cons_zero, Act.put, List.setIfInBounds_toArray, List.set_cons_zero, List.set_cons_succ]
                          (refine wpAnyH_take (i := 7) (v := ?_) rfl (by kernel_rfl) (by kernel_rfl) (by kernel_rfl) (fun _ _ _ h => h) (Or.inl ⟨by rfl, ?_⟩) (by assumption) ?_; rotate_left; · (intro w hSw; go_simp; try with_reducible rfl)); try simp only [List.getElem_toArray, List.getElem_cons_succ, List.getElem_cons_zero, Act.put, List.setIfInBounds_toArray, List.set_cons_zero, List.set_cons_succ]
                          (refine wpAnyH_take (i := 8) (v := ?_) rfl (by kernel_rfl) (by kernel_rfl) (by kernel_rfl) (fun _ _ _ h => h) (Or.inl ⟨by rfl, ?_⟩) (by assumption) ?_; rotate_left; · (intro w hSw; go_simp; try with_reducible rfl)); try simp only [List.getElem_toArray, List.getElem_cons_succ, List.getElem_cons_zero, Act.put, List.setIfInBounds_toArray, List.set_cons_zero, List.set_cons_succ]
                          refine wpAnyH_take (i := 9) rfl (by kernel_rfl) (by kernel_rfl) (by kernel_rfl) (fun _ _ _ h => h) (yieldsIf_load_mid (by rfl) _ _ rfl _ _ rfl _ _ (fun w h => h.2.1) Tryd.underlying24 rfl hi69) (by assumption) ?_; try simp only [List.getElem_toArray, List.getElem_cons_succ, List.getElem_cons_zero, Act.put, List.setIfInBounds_toArray, List.set_cons_zero, List.set_cons_succ]
                          (refine wpAnyH_take (i := 11) (v := ?_) rfl (by kernel_rfl) (by kernel_rfl) (by kernel_rfl) (fun _ _ _ h => h) (Or.inl ⟨by rfl, ?_⟩) (by assumption) ?_; rotate_left; · (intro w hSw; go_simp; try with_reducible rfl)); try simp only [List.getElem_toArray, List.getElem_cons_succ, List.getElem_cons_zero, Act.put, List.setIfInBounds_toArray, List.set_cons_zero, List.set_cons_succ]
                          (refine wpAnyH_take (i := 12) (v := ?_) rfl (by kernel_rfl) (by kernel_rfl) (by kernel_rfl) (fun _ _ _ h => h) (Or.inl ⟨by rfl, ?_⟩) (by assumption) ?_; rotate_left; · (intro w hSw; go_simp; try with_reducible rfl)); try simp only [List.getElem_toArray, List.getElem_cons_succ, List.getElem_cons_zero, Act.put, List.setIfInBounds_toArray, List.set_cons_zero, List.set_cons_succ]
                          refine wpAnyH_ready (rs := [10]) (by kernel_rfl) (by simp) ?_; refine AllReadyH.cons rfl (fun K hK => ?_) AllReadyH.nil; go_simp
                          refine (hRi.out _).mono ?_
                          rintro e w4 ⟨rfl, hb4⟩
                          refine hK.out _ _ (hSS.out _ (hHeld.1.trans (hb4.mono hHeld.1.size))) (fun hHeld => ?_); clear hK K; try simp only [List.getElem_toArray, List.getElem_cons_succ, List.getElem_cons_zero, Act.put, List.setIfInBounds_toArray, List.set_cons_zero, List.set_cons_succ]
                          (refine wpAnyH_take (i := 13) (v := ?_) rfl (by kernel_rfl) (by kernel_rfl) (by kernel_rfl) (fun _ _ _ h => h) (Or.inl ⟨by rfl, ?_⟩) (by assumption) ?_; rotate_left; · (intro w hSw; go_simp; try with_reducible rfl)); try simp only [List.getElem_toArray, List.getElem_cons_succ, List.getElem_cons_zero, Act.put, List.setIfInBounds_toArray, List.set_cons_zero, List.set_cons_succ]
                          (refine wpAnyH_take (i := 14) (v := ?_) rfl (by kernel_rfl) (by kernel_rfl) (by kernel_rfl) (fun _ _ _ h => h) (Or.inl ⟨by rfl, ?_⟩) (by assumption) ?_; rotate_left; · (intro w hSw; go_simp; try with_reducible rfl)); try simp only [List.getElem_toArray, List.getElem_cons_succ, List.getElem_cons_zero, Act.put, List.setIfInBounds_toArray, List.set_cons_zero, List.set_cons_succ]
                          (refine wpAnyH_take (i := 15) (v := ?_) rfl (by kernel_rfl) (by kernel_rfl) (by kernel_rfl) (fun _ _ _ h => h) (Or.inl ⟨by rfl, ?_⟩) (by assumption) ?_; rotate_left; · (intro w hSw; go_simp; try with_reducible rfl)); try simp only [List.getElem_toArray, List.getElem_cons_succ, List.getElem_cons_zero, Act.put, List.setIfInBounds_toArray, List.set_cons_zero, List.set_cons_succ]
                          refine wpAnyH_take (i := 16) (v := undef) rfl (by kernel_rfl) (by kernel_rfl) (by kernel_rfl) (fun _ _ _ h => h) (Or.inr ⟨by rfl, rfl⟩) (by assumption) ?_; try simp only [List.getElem_toArray, List.getElem_cons_succ, List.getElem_cons_zero, Act.put, List.setIfInBounds_toArray, List.set_cons_zero, List.set_cons_succ]
                          refine wpAnyH_take (i := 17) (v := undef) rfl (by kernel_rfl) (by kernel_rfl) (by kernel_rfl) (fun _ _ _ h => h) (Or.inr ⟨by rfl, rfl⟩) (by assumption) ?_; try simp only [List.getElem_toArray, List.getElem_cons_succ, List.getElem_cons_zero, Act.put, List.setIfInBounds_toArray, List.set_cons_zero, List.set_cons_succ]
                          refine wpAnyH_take (i := 18) (v := undef) rfl (by kernel_rfl) (by kernel_rfl) (by kernel_rfl) (fun _ _ _ h => h) (Or.inr ⟨by rfl, rfl⟩) (by assumption) ?_; try simp only [List.getElem_toArray, List.getElem_cons_succ, List.getElem_cons_zero, Act.put, List.setIfInBounds_toArray, List.set_cons_zero, List.set_cons_succ]
                          (refine wpAnyH_take (i := 19) (v := ?_) rfl (by kernel_rfl) (by kernel_rfl) (by kernel_rfl) (fun _ _ _ h => h) (Or.inl ⟨by rfl, ?_⟩) (by assumption) ?_; rotate_left; · (intro w hSw; go_simp; try with_reducible rfl)); try simp only [List.getElem_toArray, List.getElem_cons_succ, List.getElem_cons_zero, Act.put, List.setIfInBounds_toArray, List.set_cons_zero, List.set_cons_succ]
                          refine wpAnyH_done (by kernel_rfl) ?_ _
                          go_wp2_with (fail)
                          go_meet
                          exact ⟨⟨_, rfl, fun h => by cases h⟩, hHeld.1⟩
                      · refine wp_region_held_drew (S := fun v => Below wr.heap.size wr v ∧ v.rangeAt w.heap.size 0 (rowArr 69 fun i => .int .i64 (g i)).toList ∧ v.cell? ⟨w.heap.size, 65, none⟩ = some (.int .i64 (g 65))) (by kernel_rfl) ?_ (fun hHeld => ?_)
                        · exact hSS.out _ k0
                        refine wpAnyH_take (i := 0) rfl (by kernel_rfl) (by kernel_rfl) (by kernel_rfl) (fun _ _ _ h => h) (yieldsIf_load_mid (by rfl) _ _ rfl _ _ rfl _ _ (fun w h => h.2.1) Tryd.underlying24 rfl hi69) (by assumption) ?_; try simp only [List.getElem_toArray, List.getElem_cons_succ, List.getElem_cons_zero, Act.put, List.setIfInBounds_toArray, List.set_cons_zero, List.set_cons_succ]
                        refine wpAnyH_ready (rs := [1]) (by kernel_rfl) (by simp) ?_; refine AllReadyH.cons rfl (fun K hK => ?_) AllReadyH.nil; go_simp
                        refine (hC0.out _).mono ?_
                        rintro e w2 ⟨rfl, hb2⟩
                        refine hK.out _ _ (hSS.out _ (hHeld.1.trans (hb2.mono hHeld.1.size))) (fun hHeld => ?_); clear hK K; try simp only [List.getElem_toArray, List.getElem_cons_succ, List.getElem_cons_zero, Act.put, List.setIfInBounds_toArray, List.set_cons_zero, List.set_cons_succ]
                        (refine wpAnyH_take (i := 2) (v := ?_) rfl (by kernel_rfl) (by kernel_rfl) (by kernel_rfl) (fun _ _ _ h => h) (Or.inl ⟨by rfl, ?_⟩) (by assumption) ?_; rotate_left; · (intro w hSw; go_simp; try with_reducible rfl)); try simp only [List.getElem_toArray, List.getElem_cons_succ, List.getElem_cons_zero, Act.put, List.setIfInBounds_toArray, List.set_cons_zero, List.set_cons_succ]
                        (refine wpAnyH_take (i := 3) (v := ?_) rfl (by kernel_rfl) (by kernel_rfl) (by kernel_rfl) (fun _ _ _ h => h) (Or.inl ⟨by rfl, ?_⟩) (by assumption) ?_; rotate_left; · (intro w hSw; go_simp; try with_reducible rfl)); try simp only [List.getElem_toArray, List.getElem_cons_succ, List.getElem_cons_zero, Act.put, List.setIfInBounds_toArray, List.set_cons_zero, List.set_cons_succ]
                        refine wpAnyH_take (i := 4) rfl (by kernel_rfl) (by kernel_rfl) (by kernel_rfl) (fun _ _ _ h => h) (yieldsIf_load_mid (by rfl) _ _ rfl _ _ rfl _ _ (fun w h => h.2.1) Tryd.underlying24 rfl hi69) (by assumption) ?_; try simp only [List.getElem_toArray, List.getElem_cons_succ, List.getElem_cons_zero, Act.put, List.setIfInBounds_toArray, List.set_cons_zero, List.set_cons_succ]
                        refine wpAnyH_ready (rs := [5]) (by kernel_rfl) (by simp) ?_; refine AllReadyH.cons rfl (fun K hK => ?_) AllReadyH.nil; go_simp
                        refine (hC1.out _).mono ?_
                        rintro e w3 ⟨rfl, hb3⟩
                        refine hK.out _ _ (hSS.out _ (hHeld.1.trans (hb3.mono hHeld.1.size))) (fun hHeld => ?_); clear hK K; try simp only [List.getElem_toArray, List.getElem_cons_succ, List.getElem_cons_zero, Act.put, List.setIfInBounds_toArray, List.set_cons_zero, List.set_cons_succ]
                        (refine wpAnyH_take (i := 6) (v := ?_) rfl (by kernel_rfl) (by kernel_rfl) (by kernel_rfl) (fun _ _ _ h => h) (Or.inl ⟨by rfl, ?_⟩) (by assumption) ?_; rotate_left; · (intro w hSw; go_simp; try with_reducible rfl)); try simp only [List.getElem_toArray, List.getElem_cons_succ, List.getElem_cons_zero, Act.put, List.setIfInBounds_toArray, List.set_cons_zero, List.set_cons_succ]
                        (refine wpAnyH_take (i := 7) (v := ?_) rfl (by kernel_rfl) (by kernel_rfl) (by kernel_rfl) (fun _ _ _ h => h) (Or.inl ⟨by rfl, ?_⟩) (by assumption) ?_; rotate_left; · (intro w hSw; go_simp; try with_reducible rfl)); try simp only [List.getElem_toArray, List.getElem_cons_succ, List.getElem_cons_zero, Act.put, List.setIfInBounds_toArray, List.set_cons_zero, List.set_cons_succ]
                        (refine wpAnyH_take (i := 8) (v := ?_) rfl (by kernel_rfl) (by kernel_rfl) (by kernel_rfl) (fun _ _ _ h => h) (Or.inl ⟨by rfl, ?_⟩) (by assumption) ?_; rotate_left; · (intro w hSw; go_simp; try with_reducible rfl)); try simp only [List.getElem_toArray, List.getElem_cons_succ, List.getElem_cons_zero, Act.put, List.setIfInBounds_toArray, List.set_cons_zero, List.set_cons_succ]
                        refine wpAnyH_take (i := 9) (v := undef) rfl (by kernel_rfl) (by kernel_rfl) (by kernel_rfl) (fun _ _ _ h => h) (Or.inr ⟨by rfl, rfl⟩) (by assumption) ?_; try simp only [List.getElem_toArray, List.getElem_cons_succ, List.getElem_cons_zero, Act.put, List.setIfInBounds_toArray, List.set_cons_zero, List.set_cons_succ]
                        refine wpAnyH_take (i := 10) (v := undef) rfl (by kernel_rfl) (by kernel_rfl) (by kernel_rfl) (fun _ _ _ h => h) (Or.inr ⟨by rfl, rfl⟩) (by assumption) ?_; try simp only [List.getElem_toArray, List.getElem_cons_succ, List.getElem_cons_zero, Act.put, List.setIfInBounds_toArray, List.set_cons_zero, List.set_cons_succ]
                        refine wpAnyH_take (i := 11) (v := undef) rfl (by kernel_rfl) (by kernel_rfl) (by kernel_rfl) (fun _ _ _ h => h) (Or.inr ⟨by rfl, rfl⟩) (by assumption) ?_; try simp only [List.getElem_toArray, List.getElem_cons_succ, List.getElem_cons_zero, Act.put, List.setIfInBounds_toArray, List.set_cons_zero, List.set_cons_succ]
                        refine wpAnyH_take (i := 12) (v := undef) rfl (by kernel_rfl) (by kernel_rfl) (by kernel_rfl) (fun _ _ _ h => h) (Or.inr ⟨by rfl, rfl⟩) (by assumption) ?_; try simp only [List.getElem_toArray, List.getElem_cons_succ, List.getElem_cons_zero, Act.put, List.setIfInBounds_toArray, List.set_cons_zero, List.set_cons_succ]
                        refine wpAnyH_take (i := 13) (v := undef) rfl (by kernel_rfl) (by kernel_rfl) (by kernel_rfl) (fun _ _ _ h => h) (Or.inr ⟨by rfl, rfl⟩) (by assumption) ?_; try simp only [List.getElem_toArray, List.getElem_cons_succ, List.getElem_cons_zero, Act.put, List.setIfInBounds_toArray, List.set_cons_zero, List.set_cons_succ]
                        (refine wpAnyH_take (i := 14) (v := ?_) rfl (by kernel_rfl) (by kernel_rfl) (by kernel_rfl) (fun _ _ _ h => h) (Or.inl ⟨by rfl, ?_⟩) (by assumption) ?_; rotate_left; · (intro w hSw; go_simp; try with_reducible rfl)); try simp only [List.getElem_toArray, List.getElem_cons_succ, List.getElem_cons_zero, Act.put, List.setIfInBounds_toArray, List.set_cons_zero, List.set_cons_succ]
                        (refine wpAnyH_take (i := 15) (v := ?_) rfl (by kernel_rfl) (by kernel_rfl) (by kernel_rfl) (fun _ _ _ h => h) (Or.inl ⟨by rfl, ?_⟩) (by assumption) ?_; rotate_left; · (intro w hSw; go_simp; try with_reducible rfl)); try simp only [List.getElem_toArray, List.getElem_cons_succ, List.getElem_cons_zero, Act.put, List.setIfInBounds_toArray, List.set_cons_zero, List.set_cons_succ]
                        refine wpAnyH_take (i := 16) (v := undef) rfl (by kernel_rfl) (by kernel_rfl) (by kernel_rfl) (fun _ _ _ h => h) (Or.inr ⟨by rfl, rfl⟩) (by assumption) ?_; try simp only [List.getElem_toArray, List.getElem_cons_succ, List.getElem_cons_zero, Act.put, List.setIfInBounds_toArray, List.set_cons_zero, List.set_cons_succ]
                        refine wpAnyH_take (i := 17) (v := undef) rfl (by kernel_rfl) (by kernel_rfl) (by kernel_rfl) (fun _ _ _ h => h) (Or.inr ⟨by rfl, rfl⟩) (by assumption) ?_; try simp only [List.getElem_toArray, List.getElem_cons_succ, List.getElem_cons_zero, Act.put, List.setIfInBounds_toArray, List.set_cons_zero, List.set_cons_succ]
                        refine wpAnyH_take (i := 18) (v := undef) rfl (by kernel_rfl) (by kernel_rfl) (by kernel_rfl) (fun _ _ _ h => h) (Or.inr ⟨by rfl, rfl⟩) (by assumption) ?_; try simp only [List.getElem_toArray, List.getElem_cons_succ, List.getElem_cons_zero, Act.put, List.setIfInBounds_toArray, List.set_cons_zero, List.set_cons_succ]
                        (refine wpAnyH_take (i := 19) (v := ?_) rfl (by kernel_rfl) (by kernel_rfl) (by kernel_rfl) (fun _ _ _ h => h) (Or.inl ⟨by rfl, ?_⟩) (by assumption) ?_; rotate_left; · (intro w hSw; go_simp; try with_reducible rfl)); try simp only [List.getElem_toArray, List.getElem_cons_succ, List.getElem_cons_zero, Act.put, List.setIfInBounds_toArray, List.set_cons_zero, List.set_cons_succ]
                        refine wpAnyH_done (by kernel_rfl) ?_ _
                        go_wp2_with (fail)
                        go_meet
                        exact ⟨⟨_, rfl, fun h => by cases h⟩, hHeld.1⟩
                    · refine wp_region_held_drew (S := fun v => Below wr.heap.size wr v ∧ v.rangeAt w.heap.size 0 (rowArr 69 fun i => .int .i64 (g i)).toList ∧ v.cell? ⟨w.heap.size, 65, none⟩ = some (.int .i64 (g 65))) (by kernel_rfl) ?_ (fun hHeld => ?_)
                      · exact hSS.out _ k0
                      refine wpAnyH_take (i := 0) rfl (by kernel_rfl) (by kernel_rfl) (by kernel_rfl) (fun _ _ _ h => h) (yieldsIf_load_mid (by rfl) _ _ rfl _ _ rfl _ _ (fun w h => h.2.1) Tryd.underlying24 rfl hi69) (by assumption) ?_; try simp only [List.getElem_toArray, List.getElem_cons_succ, List.getElem_cons_zero, Act.put, List.setIfInBounds_toArray, List.set_cons_zero, List.set_cons_succ]
                      refine wpAnyH_ready (rs := [1]) (by kernel_rfl) (by simp) ?_; refine AllReadyH.cons rfl (fun K hK => ?_) AllReadyH.nil; go_simp
                      refine (hC0.out _).mono ?_
                      rintro e w2 ⟨rfl, hb2⟩
                      refine hK.out _ _ (hSS.out _ (hHeld.1.trans (hb2.mono hHeld.1.size))) (fun hHeld => ?_); clear hK K; try simp only [List.getElem_toArray, List.getElem_cons_succ, List.getElem_cons_zero, Act.put, List.setIfInBounds_toArray, List.set_cons_zero, List.set_cons_succ]
                      (refine wpAnyH_take (i := 2) (v := ?_) rfl (by kernel_rfl) (by kernel_rfl) (by kernel_rfl) (fun _ _ _ h => h) (Or.inl ⟨by rfl, ?_⟩) (by assumption) ?_; rotate_left; · (intro w hSw; go_simp; try with_reducible rfl)); try simp only [List.getElem_toArray, List.getElem_cons_succ, List.getElem_cons_zero, Act.put, List.setIfInBounds_toArray, List.set_cons_zero, List.set_cons_succ]
                      (refine wpAnyH_take (i := 3) (v := ?_) rfl (by kernel_rfl) (by kernel_rfl) (by kernel_rfl) (fun _ _ _ h => h) (Or.inl ⟨by rfl, ?_⟩) (by assumption) ?_; rotate_left; · (intro w hSw; go_simp; try with_reducible rfl)); try simp only [List.getElem_toArray, List.getElem_cons_succ, List.getElem_cons_zero, Act.put, List.setIfInBounds_toArray, List.set_cons_zero, List.set_cons_succ]
                      refine wpAnyH_take (i := 4) (v := undef) rfl (by kernel_rfl) (by kernel_rfl) (by kernel_rfl) (fun _ _ _ h => h) (Or.inr ⟨by rfl, rfl⟩) (by assumption) ?_; try simp only [List.getElem_toArray, List.getElem_cons_succ, List.getElem_cons_zero, Act.put, List.setIfInBounds_toArray, List.set_cons_zero, List.set_cons_succ]
                      refine wpAnyH_take (i := 5) (v := undef) rfl (by kernel_rfl) (by kernel_rfl) (by kernel_rfl) (fun _ _ _ h => h) (Or.inr ⟨by rfl, rfl⟩) (by assumption) ?_; try simp only [List.getElem_toArray, List.getElem_cons_succ, List.getElem_cons_zero, Act.put, List.setIfInBounds_toArray, List.set_cons_zero, List.set_cons_succ]
                      refine wpAnyH_take (i := 6) (v := undef) rfl (by kernel_rfl) (by kernel_rfl) (by kernel_rfl) (fun _ _ _ h => h) (Or.inr ⟨by rfl, rfl⟩) (by assumption) ?_; try simp only [List.getElem_toArray, List.getElem_cons_succ, List.getElem_cons_zero, Act.put, List.setIfInBounds_toArray, List.set_cons_zero, List.set_cons_succ]
                      (refine wpAnyH_take (i := 7) (v := ?_) rfl (by kernel_rfl) (by kernel_rfl) (by kernel_rfl) (fun _ _ _ h => h) (Or.inl ⟨by rfl, ?_⟩) (by assumption) ?_; rotate_left; · (intro w hSw; go_simp; try with_reducible rfl)); try simp only [List.getElem_toArray, List.getElem_cons_succ, List.getElem_cons_zero, Act.put, List.setIfInBounds_toArray, List.set_cons_zero, List.set_cons_succ]
                      (refine wpAnyH_take (i := 8) (v := ?_) rfl (by kernel_rfl) (by kernel_rfl) (by kernel_rfl) (fun _ _ _ h => h) (Or.inl ⟨by rfl, ?_⟩) (by assumption) ?_; rotate_left; · (intro w hSw; go_simp; try with_reducible rfl)); try simp only [List.getElem_toArray, List.getElem_cons_succ, List.getElem_cons_zero, Act.put, List.setIfInBounds_toArray, List.set_cons_zero, List.set_cons_succ]
                      refine wpAnyH_take (i := 9) (v := undef) rfl (by kernel_rfl) (by kernel_rfl) (by kernel_rfl) (fun _ _ _ h => h) (Or.inr ⟨by rfl, rfl⟩) (by assumption) ?_; try simp only [List.getElem_toArray, List.getElem_cons_succ, List.getElem_cons_zero, Act.put, List.setIfInBounds_toArray, List.set_cons_zero, List.set_cons_succ]
                      refine wpAnyH_take (i := 10) (v := undef) rfl (by kernel_rfl) (by kernel_rfl) (by kernel_rfl) (fun _ _ _ h => h) (Or.inr ⟨by rfl, rfl⟩) (by assumption) ?_; try simp only [List.getElem_toArray, List.getElem_cons_succ, List.getElem_cons_zero, Act.put, List.setIfInBounds_toArray, List.set_cons_zero, List.set_cons_succ]
                      refine wpAnyH_take (i := 11) (v := undef) rfl (by kernel_rfl) (by kernel_rfl) (by kernel_rfl) (fun _ _ _ h => h) (Or.inr ⟨by rfl, rfl⟩) (by assumption) ?_; try simp only [List.getElem_toArray, List.getElem_cons_succ, List.getElem_cons_zero, Act.put, List.setIfInBounds_toArray, List.set_cons_zero, List.set_cons_succ]
                      refine wpAnyH_take (i := 12) (v := undef) rfl (by kernel_rfl) (by kernel_rfl) (by kernel_rfl) (fun _ _ _ h => h) (Or.inr ⟨by rfl, rfl⟩) (by assumption) ?_; try simp only [List.getElem_toArray, List.getElem_cons_succ, List.getElem_cons_zero, Act.put, List.setIfInBounds_toArray, List.set_cons_zero, List.set_cons_succ]
                      refine wpAnyH_take (i := 13) (v := undef) rfl (by kernel_rfl) (by kernel_rfl) (by kernel_rfl) (fun _ _ _ h => h) (Or.inr ⟨by rfl, rfl⟩) (by assumption) ?_; try simp only [List.getElem_toArray, List.getElem_cons_succ, List.getElem_cons_zero, Act.put, List.setIfInBounds_toArray, List.set_cons_zero, List.set_cons_succ]
                      (refine wpAnyH_take (i := 14) (v := ?_) rfl (by kernel_rfl) (by kernel_rfl) (by kernel_rfl) (fun _ _ _ h => h) (Or.inl ⟨by rfl, ?_⟩) (by assumption) ?_; rotate_left; · (intro w hSw; go_simp; try with_reducible rfl)); try simp only [List.getElem_toArray, List.getElem_cons_succ, List.getElem_cons_zero, Act.put, List.setIfInBounds_toArray, List.set_cons_zero, List.set_cons_succ]
                      (refine wpAnyH_take (i := 15) (v := ?_) rfl (by kernel_rfl) (by kernel_rfl) (by kernel_rfl) (fun _ _ _ h => h) (Or.inl ⟨by rfl, ?_⟩) (by assumption) ?_; rotate_left; · (intro w hSw; go_simp; try with_reducible rfl)); try simp only [List.getElem_toArray, List.getElem_cons_succ, List.getElem_cons_zero, Act.put, List.setIfInBounds_toArray, List.set_cons_zero, List.set_cons_succ]
                      refine wpAnyH_take (i := 16) (v := undef) rfl (by kernel_rfl) (by kernel_rfl) (by kernel_rfl) (fun _ _ _ h => h) (Or.inr ⟨by rfl, rfl⟩) (by assumption) ?_; try simp only [List.getElem_toArray, List.getElem_cons_succ, List.getElem_cons_zero, Act.put, List.setIfInBounds_toArray, List.set_cons_zero, List.set_cons_succ]
                      refine wpAnyH_take (i := 17) (v := undef) rfl (by kernel_rfl) (by kernel_rfl) (by kernel_rfl) (fun _ _ _ h => h) (Or.inr ⟨by rfl, rfl⟩) (by assumption) ?_; try simp only [List.getElem_toArray, List.getElem_cons_succ, List.getElem_cons_zero, Act.put, List.setIfInBounds_toArray, List.set_cons_zero, List.set_cons_succ]
                      refine wpAnyH_take (i := 18) (v := undef) rfl (by kernel_rfl) (by kernel_rfl) (by kernel_rfl) (fun _ _ _ h => h) (Or.inr ⟨by rfl, rfl⟩) (by assumption) ?_; try simp only [List.getElem_toArray, List.getElem_cons_succ, List.getElem_cons_zero, Act.put, List.setIfInBounds_toArray, List.set_cons_zero, List.set_cons_succ]
                      (refine wpAnyH_take (i := 19) (v := ?_) rfl (by kernel_rfl) (by kernel_rfl) (by kernel_rfl) (fun _ _ _ h => h) (Or.inl ⟨by rfl, ?_⟩) (by assumption) ?_; rotate_left; · (intro w hSw; go_simp; try with_reducible rfl)); try simp only [List.getElem_toArray, List.getElem_cons_succ, List.getElem_cons_zero, Act.put, List.setIfInBounds_toArray, List.set_cons_zero, List.set_cons_succ]
                      refine wpAnyH_done (by kernel_rfl) ?_ _
                      go_wp2_with (fail)
                      go_meet
                      exact ⟨⟨_, rfl, fun h => by cases h⟩, hHeld.1⟩
                  case rest =>
                    obtain ⟨⟨b, rfl, hbb⟩, hBc⟩ := hcut
                    have hb9 := hb.trans (hBc.mono (Nat.le_of_lt hld))
                    have hr9 := rowIs_below hr hBc hld
                    clear hr hb hBc c64 c65 c67 c68
                    cases b
                    · obtain ⟨n0, n1, n2, n3⟩ := hbb rfl
                      obtain ⟨q, rfl⟩ : ∃ q : Nat, K = q := ⟨K.toNat, by have := hKN.out (by first | exact (by omega : N0 = 1) | exact (by omega : N1 = 1)); omega⟩
                      have hq64 : q < 64 := by have := hKr.out; omega
                      have hAq := Lib.hid (hAt.out q hq64)
                      have hFin := Lib.hid (fun e => hEnd.out (by omega) (by omega) n2 n3 e)
                      rw [Int.toNat_natCast] at hFin
                      generalize attB g q 1 = A at *
                      have d64 : wc.cell? ⟨w.heap.size, 64, none⟩ = some (.int .i64 (g 64)) := hr9.cell (i := 64) (by omega)
                      clear hKN hKr hAt hEnd hC0 hC1 hRi hPa n0 n1 n2 n3 hbb
                      have hld9 := hr9.lt
                      go_upto_region 11 with (fail)
                      have hi69 : (Tryd.prog.info? 24).map (·.size) = some (rowArr 69 fun i => Value.int .i64 (g i)).toList.length := by rw [infoPos', Array.length_toList, rowArr_size]
                      have k0 : Below wc.heap.size wc wc.drew := ⟨rfl, rfl, rfl, Nat.le_refl _, fun _ _ => rfl⟩
                      have hSS : ∀ wz, Below wc.heap.size wc wz → Below wc.heap.size wc wz ∧ wz.rangeAt w.heap.size 0 (rowArr 69 fun i => .int .i64 (g i)).toList ∧ wz.cell? ⟨w.heap.size, 64, none⟩ = some (.int .i64 1) := fun wz h => ⟨h, pos_range (rowIs_below hr9 h hld9), by rw [h.cell hld9, d64, show g 64 = 1 from by simpa using y1]⟩
                      replace hSS := Lib.hid hSS
                      refine wp_region_held_drew (S := fun v => Below wc.heap.size wc v ∧ v.rangeAt w.heap.size 0 (rowArr 69 fun i => .int .i64 (g i)).toList ∧ v.cell? ⟨w.heap.size, 64, none⟩ = some (.int .i64 1)) (by kernel_rfl) ?_ (fun hHeld => ?_)
                      · exact hSS.out _ k0
                      refine wpAnyH_take (i := 0) rfl (by kernel_rfl) (by kernel_rfl) (by kernel_rfl) (fun _ _ _ h => h) (yieldsIf_load_mid (by rfl) _ _ rfl _ _ rfl _ _ (fun w h => h.2.1) Tryd.underlying24 rfl hi69) (by assumption) ?_; try simp only [List.getElem_toArray, List.getElem_cons_succ, List.getElem_cons_zero, Act.put, List.setIfInBounds_toArray, List.set_cons_zero, List.set_cons_succ]
                      refine wpAnyH_take (i := 1) rfl (by kernel_rfl) (by kernel_rfl) (by kernel_rfl) (fun _ _ _ h => h) (yieldsIf_load_mid (by rfl) _ _ rfl _ _ rfl _ _ (fun w h => h.2.1) Tryd.underlying24 rfl hi69) (by assumption) ?_; try simp only [List.getElem_toArray, List.getElem_cons_succ, List.getElem_cons_zero, Act.put, List.setIfInBounds_toArray, List.set_cons_zero, List.set_cons_succ]
                      (refine wpAnyH_take (i := 2) (v := ?_) rfl (by kernel_rfl) (by kernel_rfl) (by kernel_rfl) (fun _ _ _ h => h) (Or.inl ⟨by rfl, ?_⟩) (by assumption) ?_; rotate_left; · (intro w hSw; go_simp; try with_reducible rfl)); try simp only [List.getElem_toArray, List.getElem_cons_succ, List.getElem_cons_zero, Act.put, List.setIfInBounds_toArray, List.set_cons_zero, List.set_cons_succ]
                      (refine wpAnyH_take (i := 3) (v := ?_) rfl (by kernel_rfl) (by kernel_rfl) (by kernel_rfl) (fun _ _ _ h => h) (Or.inl ⟨by rfl, ?_⟩) (by assumption) ?_; rotate_left; · (intro w hSw; go_simp; try with_reducible rfl)); try simp only [List.getElem_toArray, List.getElem_cons_succ, List.getElem_cons_zero, Act.put, List.setIfInBounds_toArray, List.set_cons_zero, List.set_cons_succ]
                      (refine wpAnyH_take (i := 4) (v := ?_) rfl (by kernel_rfl) (by kernel_rfl) (by kernel_rfl) (fun _ _ _ h => h) (Or.inl ⟨by rfl, ?_⟩) (by assumption) ?_; rotate_left; · (intro w hSw; go_simp; try with_reducible rfl)); try simp only [List.getElem_toArray, List.getElem_cons_succ, List.getElem_cons_zero, Act.put, List.setIfInBounds_toArray, List.set_cons_zero, List.set_cons_succ]
                      (refine wpAnyH_take (i := 6) (v := ?_) rfl (by kernel_rfl) (by kernel_rfl) (by kernel_rfl) (fun _ _ _ h => h) (Or.inl ⟨by rfl, ?_⟩) (by assumption) ?_; rotate_left; · (intro w hSw; go_simp; try with_reducible rfl)); try simp only [List.getElem_toArray, List.getElem_cons_succ, List.getElem_cons_zero, Act.put, List.setIfInBounds_toArray, List.set_cons_zero, List.set_cons_succ]
                      (refine wpAnyH_take (i := 7) (v := ?_) rfl (by kernel_rfl) (by kernel_rfl) (by kernel_rfl) (fun _ _ _ h => h) (Or.inl ⟨by rfl, ?_⟩) (by assumption) ?_; rotate_left; · (intro w hSw; go_simp; try with_reducible rfl)); try simp only [List.getElem_toArray, List.getElem_cons_succ, List.getElem_cons_zero, Act.put, List.setIfInBounds_toArray, List.set_cons_zero, List.set_cons_succ]
                      refine wpAnyH_ready (rs := [5]) (by kernel_rfl) (by simp) ?_; refine AllReadyH.cons rfl (fun K hK => ?_) AllReadyH.nil; go_simp
                      refine (hKg.out _).mono ?_
                      rintro e w2 ⟨rfl, hb2⟩
                      refine hK.out _ _ (hSS.out _ (hHeld.1.trans (hb2.mono hHeld.1.size))) (fun hHeld => ?_); clear hK K; try simp only [List.getElem_toArray, List.getElem_cons_succ, List.getElem_cons_zero, Act.put, List.setIfInBounds_toArray, List.set_cons_zero, List.set_cons_succ]
                      refine wpAnyH_ready (rs := [8]) (by kernel_rfl) (by simp) ?_; refine AllReadyH.cons rfl (fun K hK => ?_) AllReadyH.nil; go_simp
                      refine (hAq.out _).mono ?_
                      rintro e w3 ⟨rfl, hb3⟩
                      refine hK.out _ _ (hSS.out _ (hHeld.1.trans (hb3.mono hHeld.1.size))) (fun hHeld => ?_); clear hK K; try simp only [List.getElem_toArray, List.getElem_cons_succ, List.getElem_cons_zero, Act.put, List.setIfInBounds_toArray, List.set_cons_zero, List.set_cons_succ]
                      (refine wpAnyH_take (i := 9) (v := ?_) rfl (by kernel_rfl) (by kernel_rfl) (by kernel_rfl) (fun _ _ _ h => h) (Or.inl ⟨by rfl, ?_⟩) (by assumption) ?_; rotate_left; · (intro w hSw; go_simp; try with_reducible rfl)); try simp only [List.getElem_toArray, List.getElem_cons_succ, List.getElem_cons_zero, Act.put, List.setIfInBounds_toArray, List.set_cons_zero, List.set_cons_succ]
                      (refine wpAnyH_take (i := 10) (v := ?_) rfl (by kernel_rfl) (by kernel_rfl) (by kernel_rfl) (fun _ _ _ h => h) (Or.inl ⟨by rfl, ?_⟩) (by assumption) ?_; rotate_left; · (intro w hSw; go_simp; try with_reducible rfl)); try simp only [List.getElem_toArray, List.getElem_cons_succ, List.getElem_cons_zero, Act.put, List.setIfInBounds_toArray, List.set_cons_zero, List.set_cons_succ]
                      refine wpAnyH_done (by kernel_rfl) ?_ _
                      go_wp2_with (fail)
                      go_ret
                      exact ⟨⟨_, rfl, fun h => hFin.out (by simpa using h)⟩, hb9.trans (hHeld.1.mono (Nat.le_of_lt hld9))⟩
                    · go_wp2_with (fail)
                      go_ret
                      exact ⟨hno.out, hb9⟩
                  -- END1
                · go_wp2_with (fail)
                  go_ret
                  exact ⟨hno.out, hb⟩
              · go_wp2_with (fail)
                go_ret
                exact ⟨hno.out, hb⟩
            · go_wp2_with (fail)
              go_ret
              exact ⟨hno.out, hb⟩
          · go_wp2_with (fail)
            go_ret
            exact ⟨hno.out, hb⟩
        · go_wp2_with (fail)
          go_ret
          exact ⟨hno.out, hb⟩
end Go.Proofs.YthdbgjhonnogpaaDoor

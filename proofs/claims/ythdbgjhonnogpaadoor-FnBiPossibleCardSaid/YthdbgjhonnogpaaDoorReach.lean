/- What a piece attacks: the contract of spec.Reach, for every board of pieces and every square. -/
import Derived.Test.YthdbgjhonnogpaaDoorAtt
import Derived.Test.YthdbgjhonnogpaaDoorReachP
namespace Go.Proofs.YthdbgjhonnogpaaDoor
open Go.ChangeShapes Go.WideShapes Go.ChangeAt Go.RowKit Plain
set_option maxHeartbeats 1000000
set_option linter.unusedVariables false
set_option linter.unusedSimpArgs false

def ReachPost (l : List Nat) (w : World) (e : Ending) (w' : World) : Prop :=
  ∃ v B, e = .returned v ∧ w'.ownsRow B 3 1 v l.length (ints l) ∧ w.heap.size ≤ B ∧ Below w.heap.size w w'
theorem infoInt : (Tryd.prog.info? 3).map (fun i => (i.zero, i.size, i.bytes)) = some (some (.int .i64 0), 1, 8) := by kernel_rfl
def takenF (g : Nat → Int) (t : Nat) : Bool := g t != 0

set_option maxRecDepth 100000 in
theorem reach_any (g : Nat → Int) (hg : ∀ i, i < 64 → 0 ≤ g i ∧ g i ≤ 12) (s : Nat) (hs : s < 64) (w : World) :
    Calls Tryd.prog 12 #[intRow 69 g, .int .i64 s] w fun e w' => ReachPost (reachL (kindOf (g s)) (takenF g) s) w e w' := by
  have hrow := rowIs_new w 24 69 (fun i => .int .i64 (g i))
  have hcs := hrow.cell (i := s) (by omega)
  have hgs := hg s hs
  have hk0 : 0 ≤ kindOf (g s) ∧ kindOf (g s) ≤ 6 := by unfold kindOf; split <;> omega
  unfold intRow
  go_enter Tryd.func12, Tryd.ntmps12
  go_wp2_with (first | (go_at_call 22; refine (kindOf_any _ (by omega) (by omega) _).mono ?_; rintro e w' ⟨rfl, rfl⟩) | (go_at_call 21; refine (ways_any _ hk0.1 hk0.2 _).mono ?_; rintro e w' ⟨v, rfl, hown, hbw⟩))
  generalize hK : kindOf (g s) = K at *
  obtain ⟨w1, rfl⟩ : ∃ w1, w1 = w' := ⟨_, rfl⟩
  have hlen := waysL_len K
  have hp : w1.rowIs w.heap.size 24 69 (fun i => .int .i64 (g i)) := rowIs_below hrow hbw hrow.lt
  rcases hown.2 with ⟨_, hn⟩ | ⟨gq, cap, cur, rfl, hB, hcur, hle, hcap, hsz, htake⟩
  · omega
  have hwx : ∀ k, k < (waysL K).length → w1.cell? ⟨gq, k * 2, none⟩ = some (.int .i64 ((waysL K).getD k (0, 0)).1) ∧ w1.cell? ⟨gq, k * 2 + 1, none⟩ = some (.int .i64 ((waysL K).getD k (0, 0)).2) := by
    intro k hk
    have h2 := wcells_get (waysL K) k hk
    rw [hown.cellAt (k * 2) (by omega), hown.cellAt (k * 2 + 1) (by omega), Nat.mul_comm k 2]
    simpa using h2
  have hwb : ∀ k, k < (waysL K).length → -2 ≤ ((waysL K).getD k (0, 0)).1 ∧ ((waysL K).getD k (0, 0)).1 ≤ 2 ∧ -2 ≤ ((waysL K).getD k (0, 0)).2 ∧ ((waysL K).getD k (0, 0)).2 ≤ 2 := by
    intro k hk
    apply waysL_small K
    simp [List.getD, hk]
  have hgq : gq < w1.heap.size := lt_of_block hcur
  have hbig : w.heap.size < w1.heap.size := by have := hbw.size; simp at this; omega
  have hfull : Hid (∀ k, k < (waysL K).length → accL K (takenF g) s (k + 1) = accL K (takenF g) s k ++ restL (farL K) (takenF g) s ((waysL K).getD k (0, 0)).1 ((waysL K).getD k (0, 0)).2 1) := Lib.hid fun k hk => by rw [accL_succ _ _ _ _ hk, restL_one]
  have hend := Lib.hid (accL_all K (takenF g) s)
  have hBel : Below w.heap.size w w1 := ((Below.refl _ _).alloc (Nat.le_refl _) _).trans (hbw.mono (by simp))
  have hK' := Lib.hid hK
  clear hown hcur hsz htake hB hrow hcs hbw hK
  unfold maxLen at hcap
  generalize hL : (waysL K).length = L at *
  generalize hD : (waysL K).getD = D at *
  clear hL hD
  generalize hfar : farL K = far at *
  have hfar' := Lib.hid hfar
  clear hfar
  go_wp2
  go_loopw [7, 8] (fun out i wr => ∃ k : Nat, k ≤ L ∧ i = .int .i64 k ∧ wr.ownsRow w1.heap.size 3 1 out (accL K (takenF g) s k).length (ints (accL K (takenF g) s k)) ∧ (accL K (takenF g) s k).length ≤ 7 * k ∧ Below w1.heap.size w1 wr) (fun _ i _ => L - (intOf i).toNat)
  case atStart => exact ⟨0, Nat.zero_le _, rfl, World.ownsRow_nil _ _ _ _, Nat.le_refl _, Below.refl _ _⟩
  case round =>
    obtain ⟨k, hk, rfl, hout, hol, hbo⟩ := hrel
    by_cases hlt : k < L
    · have hfk := Lib.hid (hfull.out k hlt)
      have hx := (hbo.cell (p := ⟨gq, k * 2, none⟩) hgq).trans (hwx k hlt).1
      have hy := (hbo.cell (p := ⟨gq, k * 2 + 1, none⟩) hgq).trans (hwx k hlt).2
      have hbd := hwb k hlt
      have hx0 := (hwx k hlt).1
      have hy0 := (hwx k hlt).2
      generalize (D k (0, 0)).1 = dx at *
      generalize (D k (0, 0)).2 = dy at *
      clear hwx hwb hfull
      obtain ⟨wo, rfl⟩ : ∃ wo : World, wo = wr := ⟨_, rfl⟩
      go_wp2
      go_loopw [7, 9] (fun out m wi => ∃ (q : Nat) (pre : List Nat), 1 ≤ q ∧ q ≤ 8 ∧ m = .int .i64 q ∧ pre.length + 1 ≤ 7 * k + q ∧ wi.ownsRow w1.heap.size 3 1 out pre.length (ints pre) ∧ accL K (takenF g) s (k + 1) = pre ++ restL far (takenF g) s dx dy q ∧ Below w1.heap.size w1 wi) (fun _ m _ => 8 - (intOf m).toNat)
      case atStart => exact ⟨1, _, by omega, by omega, rfl, by omega, hout, hfk.out, hbo⟩
      case round =>
        have hx1 := hx0
        have hy1 := hy0
        clear hout hbo hfk hol hx hy hx0 hy0
        obtain ⟨q, pre, hq1, hq8, rfl, hpl, hout, hacc, hbo⟩ := hrel
        have hacc := Lib.hid hacc
        by_cases hq : q < 8
        · have hpx := mul_small q dx (by omega) ⟨hbd.1, hbd.2.1⟩
          have hpy := mul_small q dy (by omega) ⟨hbd.2.2.1, hbd.2.2.2⟩
          have hx := (hbo.cell (p := ⟨gq, k * 2, none⟩) hgq).trans hx1
          have hy := (hbo.cell (p := ⟨gq, k * 2 + 1, none⟩) hgq).trans hy1
          have hw1 : IntKind.i64.wrap ((q : Int) * dx) = (q : Int) * dx := IntWalk.i64_in _ (by omega)
          have hw2 : IntKind.i64.wrap ((q : Int) * dy) = (q : Int) * dy := IntWalk.i64_in _ (by omega)
          have hw3 : IntKind.i64.wrap ((s : Int) % 8 + (q : Int) * dx) = (s : Int) % 8 + (q : Int) * dx := IntWalk.i64_in _ (by omega)
          have hw4 : IntKind.i64.wrap ((s : Int) / 8 + (q : Int) * dy) = (s : Int) / 8 + (q : Int) * dy := IntWalk.i64_in _ (by omega)
          have hO := @restL_out far (takenF g) s q dx dy hq hq1
          have hS := fun t => @restL_stop far (takenF g) s q dx dy t hq hq1
          have hN := fun t => @restL_on (takenF g) s q dx dy t hq hq1
          have hAT := atOf_range (((s % 8 : Nat) : Int) + (q : Int) * dx) (((s / 8 : Nat) : Int) + (q : Int) * dy)
          have e8 : ((s % 8 : Nat) : Int) = (s : Int) % 8 := by omega
          have e9 : ((s / 8 : Nat) : Int) = (s : Int) / 8 := by omega
          rw [e8, e9] at hO hS hN hAT
          have hO := Lib.hid hO
          have hS := Lib.hid hS
          have hN := Lib.hid hN
          clear e8 e9 hx1 hy1
          go_wp2
          go_quiet (first | ((go_at_call 24; exact q_of (file_any _ (by omega) (by omega) _))) | ((go_at_call 8; exact q_of (rank_any _ (by omega) (by omega) _))) | ((go_at_call 23; exact q_of (at_any _ _ (by omega) (by omega) (by omega) (by omega) _))))
          clear hw1 hw2 hw3 hw4 hx hy
          generalize atOf ((s : Int) % 8 + (q : Int) * dx) ((s : Int) / 8 + (q : Int) * dy) = T at *
          have hout2 : (wr.drewN nq).ownsRow w1.heap.size 3 1 u7 pre.length (ints pre) := hout
          have hbo2 : Below w1.heap.size w1 (wr.drewN nq) := ⟨hbo.os, hbo.tape, hbo.output, hbo.size, hbo.block⟩
          generalize wr.drewN nq = wj at *
          clear hout hbo
          by_cases hT : T < 0
          · have hA : accL K (takenF g) s (k + 1) = pre := by rw [hacc.out, hO.out hT, List.append_nil]
            have hA := Lib.hid hA
            clear hO hS hN hacc
            go_wp2
            exact ⟨⟨k + 1, by omega, by go_num, by rw [hA.out]; exact hout2, by rw [hA.out]; omega, hbo2⟩, by simp [intOf]; omega⟩
          · obtain ⟨t, rfl⟩ : ∃ t : Nat, T = t := ⟨T.toNat, by omega⟩
            have ht64 : t < 64 := by omega
            have hpl' : (pre ++ [t]).length + 1 ≤ 7 * k + (q + 1) := by simp; omega
            clear hT hO
            by_cases hgt : g t = 0
            · have hgb : (g t != 0) = false := by simpa using hgt
              cases far with
              | false =>
                have hA : accL K (takenF g) s (k + 1) = pre ++ [t] := by rw [hacc.out, hS.out t rfl (.inl rfl)]
                have hA := Lib.hid hA
                clear hS hN hacc hgt
                go_wp2_with (at_builtin; refine wpList_app rfl _ _ 32 rfl w1.heap.size 3 (.int .i64 0) 1 8 Tryd.underlying32 infoInt rfl (by decide) _ _ _ rfl hout2 hbo2 (Nat.le_refl _) [.int .i64 (t : Int)] (one_int _) rfl _ rfl rfl (by omega) (by decide) ?_; intro v' w2 hown2 hbo3 hnil; have hown3 : w2.ownsRow w1.heap.size 3 1 v' (pre ++ [t]).length (ints (pre ++ [t])) := app_ints hown2; have hpt := (rowIs_below hp hbo3 hbig).cell (i := t) (by omega); clear hown2 hnil hout2 hbo2)
                exact ⟨⟨k + 1, by omega, by go_num, by rw [hA.out]; exact hown3, by rw [hA.out]; omega, hbo3⟩, by simp [intOf]; omega⟩
              | true =>
                have hA : accL K (takenF g) s (k + 1) = (pre ++ [t]) ++ restL true (takenF g) s dx dy (q + 1) := by rw [hacc.out, hN.out t rfl (by simpa [takenF] using hgt)]; simp
                have hA := Lib.hid hA
                clear hS hN hacc hgt
                go_wp2_with (at_builtin; refine wpList_app rfl _ _ 32 rfl w1.heap.size 3 (.int .i64 0) 1 8 Tryd.underlying32 infoInt rfl (by decide) _ _ _ rfl hout2 hbo2 (Nat.le_refl _) [.int .i64 (t : Int)] (one_int _) rfl _ rfl rfl (by omega) (by decide) ?_; intro v' w2 hown2 hbo3 hnil; have hown3 : w2.ownsRow w1.heap.size 3 1 v' (pre ++ [t]).length (ints (pre ++ [t])) := app_ints hown2; have hpt := (rowIs_below hp hbo3 hbig).cell (i := t) (by omega); clear hown2 hnil hout2 hbo2)
                exact ⟨⟨q + 1, _, by omega, by omega, by go_num, hpl', hown3, hA.out, hbo3⟩, by simp [intOf]; omega⟩
            · have hgb : (g t != 0) = true := by simpa using hgt
              have hA : accL K (takenF g) s (k + 1) = pre ++ [t] := by rw [hacc.out, hS.out t rfl (.inr (by simpa [takenF] using hgt))]
              have hA := Lib.hid hA
              clear hS hN hacc hgt
              cases far
              all_goals
                go_wp2_with (at_builtin; refine wpList_app rfl _ _ 32 rfl w1.heap.size 3 (.int .i64 0) 1 8 Tryd.underlying32 infoInt rfl (by decide) _ _ _ rfl hout2 hbo2 (Nat.le_refl _) [.int .i64 (t : Int)] (one_int _) rfl _ rfl rfl (by omega) (by decide) ?_; intro v' w2 hown2 hbo3 hnil; have hown3 : w2.ownsRow w1.heap.size 3 1 v' (pre ++ [t]).length (ints (pre ++ [t])) := app_ints hown2; have hpt := (rowIs_below hp hbo3 hbig).cell (i := t) (by omega); clear hown2 hnil hout2 hbo2)
                exact ⟨⟨k + 1, by omega, by go_num, by rw [hA.out]; exact hown3, by rw [hA.out]; omega, hbo3⟩, by simp [intOf]; omega⟩
        · obtain rfl : q = 8 := by omega
          have hA : accL K (takenF g) s (k + 1) = pre := by rw [hacc.out, restL_end, List.append_nil]
          have hA := Lib.hid hA
          clear hacc
          go_wp2
          exact ⟨⟨k + 1, by omega, by go_num, by rw [hA.out]; exact hout, by rw [hA.out]; omega, hbo⟩, by simp [intOf]; omega⟩
    · obtain rfl : k = L := by omega
      go_wp2
      go_ret
      exact ⟨_, _, rfl, by rw [hend.out, ← hK'.out] at hout; exact hout, by omega, hBel.trans (hbo.mono (by omega))⟩
end Go.Proofs.YthdbgjhonnogpaaDoor

/- Standard algebraic notation: the reference's SanParts where no castling stands ahead. -/
import Derived.Test.YtkbbncobgmepbaaDoorSanSp
namespace Go.Proofs.YtkbbncobgmepbaaDoor
open Go.ChangeShapes Go.WideShapes Go.ChangeAt Go.RowKit Go.PlainAid
set_option maxHeartbeats 8000000
set_option linter.unusedVariables false
set_option linter.unusedSimpArgs false
attribute [local go_sem] tx_list tx_size

theorem sanRest_at (L : List UInt8) (hL : L.length ≤ 100) (x : Int) (a n : Nat) (hx : x = a) (ha : a ≤ 1) (hn : n < 8) (w : World) :
    Calls Tryd.prog 22 #[.string (tx L), .int .i64 x, .int .i64 (n : Int)] w fun e w' => RestPost L a n w e w' := by
  subst hx; exact sanRest_any L hL a n ha hn w
theorem endN_le {L : List UInt8} {a n : Nat} (h : restYes L a n) : endN L a n ≤ L.length ∧ 2 ≤ endN L a n := by
  have hd := has_lt h.2.2
  unfold endN
  by_cases hc : has eqS L (a + offN n 3 + 2) && has promS L (a + offN n 3 + 2 + 1)
  · have hp : pN L (a + offN n 3 + 2) = 2 := by unfold pN; rw [if_pos hc]
    rw [Bool.and_eq_true] at hc
    have := has_lt hc.2
    omega
  · have hp : pN L (a + offN n 3 + 2) = 0 := by unfold pN; rw [if_neg hc]
    omega
def startT (L : List UInt8) (a j : Nat) : List UInt8 := if j = 0 then mid L 0 a else []
/-- The parts behind k of the six that are copied. -/
def copyT (L : List UInt8) (a n k j : Nat) : List UInt8 := if 1 ≤ j ∧ j ≤ k then restAll L a n (j - 1) else startT L a j
theorem copyT_zero (L : List UInt8) (a n j : Nat) : copyT L a n 0 j = startT L a j := by unfold copyT; rw [if_neg (by omega)]
theorem copyT_succ (L : List UInt8) (a n k j : Nat) (hj : j < 8) : (if j = 1 + k then restAll L a n k else copyT L a n k j) = copyT L a n (k + 1) j := by
  unfold copyT
  by_cases e : j = 1 + k
  · subst e
    rw [if_pos rfl, if_pos (by omega), show 1 + k - 1 = k by omega]
  · rw [if_neg e]
    by_cases e2 : 1 ≤ j ∧ j ≤ k
    · rw [if_pos e2, if_pos (by omega)]
    · rw [if_neg e2, if_neg (by omega)]
theorem copyT_out (L : List UInt8) (a n j : Nat) (hj : j < 8) : copyT L a n 6 j = outT L a n j := by
  have : j = 0 ∨ j = 1 ∨ j = 2 ∨ j = 3 ∨ j = 4 ∨ j = 5 ∨ j = 6 ∨ j = 7 := by omega
  rcases this with rfl | rfl | rfl | rfl | rfl | rfl | rfl | rfl <;> rfl
theorem out_yes {L : List UInt8} {n : Nat} (h : restYes L (oneB pieceS L 0) n) (ht : tailB L (endN L (oneB pieceS L 0) n) = true) : OutS L (listT (outT L (oneB pieceS L 0) n)) true := by
  refine .inl ⟨.inl ⟨_, _, _, _, _, hit_of_rest h ht, ?_⟩, rfl, rfl⟩
  exact outT_parts L _ n h.2.1 h.2.2
theorem out_no {L : List UInt8} (h : ∀ n, n < 8 → ¬ (restYes L (oneB pieceS L 0) n ∧ tailB L (endN L (oneB pieceS L 0) n) = true)) (hA : castB L castA = false) (hO : castB L castO = false) (l : List (List UInt8)) : OutS L l false := by
  refine .inr ⟨⟨fun a b c d p hh => ?_, hA, hO⟩, rfl⟩
  obtain ⟨n, hn, ha, _, _, _, hy, _, ht⟩ := rest_of_hit hh
  rw [ha] at hy ht
  exact h n hn ⟨hy, ht⟩
theorem six_new (w : World) (X : Nat → List UInt8) : (w.alloc (.cells (sixA X) 44)).rowIs w.heap.size 44 6 (tV X) :=
  World.rowIs_alloc w (sixA X) 44 (tV X) (fun i hi => by
    have : i = 0 ∨ i = 1 ∨ i = 2 ∨ i = 3 ∨ i = 4 ∨ i = 5 := by have : i < 6 := hi; omega
    rcases this with rfl | rfl | rfl | rfl | rfl | rfl <;> rfl)
theorem startT_zero (L : List UInt8) (j : Nat) : noT j = startT L 0 j := by
  unfold startT noT mid
  by_cases e : j = 0
  · rw [if_pos e]; simp
  · rw [if_neg e]
set_option maxRecDepth 100000 in
theorem sanParts_M (L : List UInt8) (hL : L.length ≤ 100) (h5 : decide ((5 : Int) ≤ (L.length : Int)) = false ∨ (decide ((5 : Int) ≤ (L.length : Int)) = true ∧ (L.take 5 == castA) = false)) (h3 : decide ((3 : Int) ≤ (L.length : Int)) = false ∨ (decide ((3 : Int) ≤ (L.length : Int)) = true ∧ (L.take 3 == castO) = false)) (hcA : castB L castA = false) (hcO : castB L castO = false) (w : World) :
    Calls Tryd.prog 6 #[.string (tx L)] w fun e w' => SpPost L w e w' := by
  have hL1 : L.length ≤ 1000 := by omega
  have hW0 := (partW_new w).congr fun j _ => startT_zero L j
  have hW1 := partW_lit (startT L 1) w
  have hst5 : decide ((5 : Int) ≤ (L.length : Int)) = true → ∀ w, (Instr.slice 9 (.string (tx L)) none (some (.int .i64 5)) none).run Tryd.prog w = .ok (.string (tx (L.take 5))) w := fun h => slice_to L 5 5 rfl (by have := of_decide_eq_true h; omega)
  have hst3 : decide ((3 : Int) ≤ (L.length : Int)) = true → ∀ w, (Instr.slice 9 (.string (tx L)) none (some (.int .i64 3)) none).run Tryd.prog w = .ok (.string (tx (L.take 3))) w := fun h => slice_to L 3 3 rfl (by have := of_decide_eq_true h; omega)
  have hgk : ∀ h : 0 < (tx L).size, ((((tx L)[0]'h).toNat : Nat) : Int) = (((L.getD 0 0).toNat : Nat) : Int) := fun h => by rw [get_bt (tx L) 0 h, bt_tx]
  unfold castA at h5
  unfold castO at h3
  have hfound := fun n => out_yes (L := L) (n := n)
  have hnone := fun h l => out_no (L := L) h hcA hcO l
  replace hfound := Lib.hid hfound
  replace hnone := Lib.hid hnone
  clear hcA hcO
  by_cases hl0 : 0 < L.length
  · have hdl : decide ((0 : Int) < (L.length : Int)) = true := decide_eq_true (by omega)
    have hin := fun w => sanIn_any pieceS (by decide) (L.getD 0 0) w
    rw [show pieceS.contains (L.getD 0 0) = has pieceS L 0 by unfold has; rw [decide_eq_true hl0, Bool.true_and]] at hin
    cases hP : has pieceS L 0
    · rw [hP] at hin
      rcases h5 with hd5 | ⟨hd5, hb5⟩
      · rcases h3 with hd3 | ⟨hd3, hb3⟩
        · skip
          have hav0 := Lib.hid (oneB_no hP)
          replace hin := Lib.hid hin
          replace hP := Lib.hid hP
          generalize (((L.getD 0 0).toNat : Nat) : Int) = c0 at *
          go_enter Tryd.func6, Tryd.ntmps6
          go_wp2_with (go_at_call 21; refine (hin.out _).mono ?_; rintro e w' ⟨rfl, rfl⟩)
          change Code.wp _ _ _ _ (partW0 w)
          generalize partW0 w = wS at *
          have hW0' := hW0
          obtain ⟨a, hae⟩ : ∃ a, a = oneB pieceS L 0 := ⟨_, rfl⟩
          have hav : a = 0 := by rw [hae]; exact hav0.out
          rw [← hav] at hW0'
          rw [← hae] at hfound hnone
          replace hae := Lib.hid hae
          replace hav := Lib.hid hav
          clear hav0 hst5 hst3 hgk
          go_loopw [6, 7, 8, 9] (fun f _ _ _ wr => ∃ n : Nat, n ≤ 8 ∧ f = .int .i64 n ∧ (∀ n', n' < n → ¬ (restYes L a n' ∧ tailB L (endN L a n') = true)) ∧ PartW (startT L a) w wr) (fun f _ _ _ _ => 8 - (intOf f).toNat)
          case atStart => exact ⟨0, by omega, rfl, fun n' h => by omega, hW0'⟩
          case round =>
            clear hW0' hW0 hW1
            obtain ⟨n, hn, rfl, hno, hW⟩ := hrel
            by_cases hlt : n < 8
            · go_wp2_with (fail)
              refine (sanRest_at L hL _ a n (by have := hav.out; omega) (by have := hav.out; omega) hlt _).mono ?_
              rintro e w2 ⟨⟨hy, rfl⟩ | ⟨hy, X, rfl⟩, hb2⟩
              · have hE : a + offN n 3 + 2 + pN L (a + offN n 3 + 2) = endN L a n := rfl
                rw [hE]
                have hel := endN_le hy
                have hW2 := hW.below hb2
                have hW3 := hW2.below ((Below.refl _ _).alloc (Nat.le_refl _) (.cells (sixA (restAll L a n)) 44))
                have hg7 := six_new w2 (restAll L a n)
                have hgH : w.heap.size + 1 < w2.heap.size := hW2.2.1.lt
                have htl := fun w => sanTail_any (L.drop (endN L a n)) (by rw [List.length_drop]; omega) w
                have htb : tailL (L.drop (endN L a n)) = tailB L (endN L a n) := rfl
                rw [htb] at htl
                have hsf := slice_from L (endN L a n : Nat) (endN L a n) rfl hel.1
                have hpos : decide ((0 : Int) < (endN L a n : Nat)) = true := decide_eq_true (by omega)
                cases ht : tailB L (endN L a n)
                · rw [ht] at htl
                  have hno' := Lib.hid (show ∀ n', n' < n + 1 → ¬ (restYes L a n' ∧ tailB L (endN L a n') = true) from fun n' h' hh => by
                    rcases Nat.lt_succ_iff_lt_or_eq.1 h' with h1 | rfl
                    · exact hno n' h1 hh
                    · rw [ht] at hh; cases hh.2)
                  replace htl := Lib.hid htl
                  replace hW3 := Lib.hid hW3
                  clear hno ht hb2 hW hy hE hg7 htb
                  unfold sixA at *
                  generalize restAll L a n = X at *
                  generalize endN L a n = E at *
                  generalize L.drop E = y at *
                  go_wp2_with (go_at_call 20; refine (htl.out _).mono ?_; rintro e w' ⟨rfl, rfl⟩)
                  exact ⟨⟨n + 1, by omega, by go_num, hno'.out, hW3.out⟩, by simp [intOf]; omega⟩
                · rw [ht] at htl
                  have hfin : OutS L (listT (outT L a n)) true := hfound.out n hy ht
                  have hcz : PartW (copyT L a n 0) w _ := hW3.congr fun j _ => (copyT_zero L a n j).symm
                  have hcs : ∀ k j, j < 8 → (if j = 1 + k then restAll L a n k else copyT L a n k j) = copyT L a n (k + 1) j := fun k j hj => copyT_succ L a n k j hj
                  have hco : ∀ j, j < 8 → copyT L a n 6 j = outT L a n j := fun j hj => copyT_out L a n j hj
                  replace htl := Lib.hid htl
                  replace hfin := Lib.hid hfin
                  replace hcs := Lib.hid hcs
                  replace hco := Lib.hid hco
                  clear hno ht hb2 hW hW2 hW3 hy hE htb
                  unfold sixA at *
                  generalize restAll L a n = X at *
                  generalize copyT L a n = C at *
                  generalize outT L a n = O at *
                  generalize endN L a n = E at *
                  generalize L.drop E = y at *
                  replace hcz := Lib.hid hcz
                  replace hg7 := Lib.hid hg7
                  go_wp2_with (go_at_call 20; refine (htl.out _).mono ?_; rintro e w' ⟨rfl, rfl⟩)
                  replace hcz := hcz.out
                  replace hg7 := hg7.out
                  generalize (w2.alloc _) = w6 at *
                  generalize w2.heap.size = g7 at *
                  go_loopw [9] (fun k wr => ∃ q : Nat, q ≤ 6 ∧ k = .int .i64 q ∧ PartW (C q) w wr ∧ wr.rowIs g7 44 6 (tV X)) (fun k _ => 6 - (intOf k).toNat)
                  case atStart => exact ⟨0, by omega, rfl, hcz, hg7⟩
                  case round =>
                    clear hcz hg7
                    obtain ⟨q, hq, rfl, hcz, hg7⟩ := hrel
                    by_cases hq6 : q < 6
                    · have c7 := hg7.cell (i := q) (by omega)
                      have hc := hcz.2.1.cell (i := 1 + q) (by omega)
                      have hf := hcz.2.1.frozen (1 + q)
                      have hnext : PartW (C (q + 1)) w (wr.setCell ⟨w.heap.size + 1, 1 + q, none⟩ (.string (tx (X q)))) := (hcz.put (1 + q) (X q)).congr fun j hj => hcs.out q j hj
                      have hg7' := hg7.setOther (a := ⟨w.heap.size + 1, 1 + q, none⟩) (by show g7 ≠ w.heap.size + 1; omega) (.string (tx (X q)))
                      unfold tV at c7 hc
                      have hq0 : (0 : Int) ≤ (q : Int) := by omega
                      have hq7 : (q : Int) < 6 := by omega
                      replace hnext := Lib.hid hnext
                      replace hg7' := Lib.hid hg7'
                      clear hcz hg7
                      go_wp2_with (fail)
                      exact ⟨⟨q + 1, by omega, by go_num, hnext.out, hg7'.out⟩, by simp [intOf]; omega⟩
                    · obtain rfl : q = 6 := by omega
                      obtain ⟨c0', c1', c2', c3', c4', c5', c6', c7'⟩ := hcz.cells
                      have hth := Lib.hid hcz.there
                      have hans := Lib.hid (hcz.answer (C 6))
                      have hlst : listT (C 6) = listT O := by unfold listT; rw [hco.out 0 (by omega), hco.out 1 (by omega), hco.out 2 (by omega), hco.out 3 (by omega), hco.out 4 (by omega), hco.out 5 (by omega), hco.out 6 (by omega), hco.out 7 (by omega)]
                      replace hfin := hfin.out
                      rw [← hlst] at hfin
                      replace hfin := Lib.hid hfin
                      clear hcz hg7 hlst
                      generalize C 6 = C6 at *
                      go_wp2_with (refine wpList_store_mid rfl 22 _ _ rfl w.heap.size 0 (eightT C6) rfl rfl hth.out (by kernel_rfl) (by simp [eightT, Value.oneCell']) ?_)
                      obtain ⟨hrA, hBA⟩ := hans.out
                      generalize World.setCells _ _ _ _ = wB at *
                      clear c0' c1' c2' c3' c4' c5' c6' c7'
                      have d0 := hrA.cell (i := 0) (by omega)
                      have d1 := hrA.cell (i := 1) (by omega)
                      have d2 := hrA.cell (i := 2) (by omega)
                      have d3 := hrA.cell (i := 3) (by omega)
                      have d4 := hrA.cell (i := 4) (by omega)
                      have d5 := hrA.cell (i := 5) (by omega)
                      have d6 := hrA.cell (i := 6) (by omega)
                      have d7 := hrA.cell (i := 7) (by omega)
                      replace hBA := Lib.hid hBA
                      clear hrA
                      exact bodyPost_ret (v := .tuple #[.agg (eight (listT C6)), .bool true]) (by simp [results, Tryd.results6, go_sem, d0, d1, d2, d3, d4, d5, d6, d7]; rfl) rfl ⟨⟨_, _, rfl, hfin.out⟩, hBA.out⟩
              · have hE : True := trivial
                have hW2 := hW.below hb2
                have hW3 := Lib.hid (fun Y => hW2.below ((Below.refl _ _).alloc (Nat.le_refl _) Y))
                have hno' := Lib.hid (show ∀ n', n' < n + 1 → ¬ (restYes L a n' ∧ tailB L (endN L a n') = true) from fun n' h' hh => by
                  rcases Nat.lt_succ_iff_lt_or_eq.1 h' with h1 | rfl
                  · exact hno n' h1 hh
                  · exact hy hh.1)
                clear hno hb2 hW hW2 hy
                unfold sixA at *
                go_wp2_with (fail)
                exact ⟨⟨n + 1, by omega, by go_num, hno'.out, hW3.out _⟩, by simp [intOf]; omega⟩
            · obtain rfl : n = 8 := by omega
              have hfin := Lib.hid (fun l => hnone.out hno l)
              have hth := Lib.hid hW.there
              have hans := Lib.hid (hW.answer noT)
              clear hno hW
              go_wp2_with (refine wpList_store_mid rfl 22 _ _ rfl w.heap.size 0 (eightT noT) rfl rfl hth.out (by kernel_rfl) (by simp [eightT, Value.oneCell']) ?_)
              obtain ⟨hrA, hBA⟩ := hans.out
              generalize World.setCells _ _ _ _ = wB at *
              have d0 := hrA.cell (i := 0) (by omega)
              have d1 := hrA.cell (i := 1) (by omega)
              have d2 := hrA.cell (i := 2) (by omega)
              have d3 := hrA.cell (i := 3) (by omega)
              have d4 := hrA.cell (i := 4) (by omega)
              have d5 := hrA.cell (i := 5) (by omega)
              have d6 := hrA.cell (i := 6) (by omega)
              have d7 := hrA.cell (i := 7) (by omega)
              replace hBA := Lib.hid hBA
              clear hrA
              exact bodyPost_ret (v := .tuple #[.agg (eight (listT noT)), .bool false]) (by simp [results, Tryd.results6, go_sem, d0, d1, d2, d3, d4, d5, d6, d7]; rfl) rfl ⟨⟨_, _, rfl, hfin.out _⟩, hBA.out⟩
        · skip
          have hs3 := hst3 hd3
          generalize L.take 3 = z3 at *
          have hav0 := Lib.hid (oneB_no hP)
          replace hin := Lib.hid hin
          replace hP := Lib.hid hP
          generalize (((L.getD 0 0).toNat : Nat) : Int) = c0 at *
          go_enter Tryd.func6, Tryd.ntmps6
          go_wp2_with (go_at_call 21; refine (hin.out _).mono ?_; rintro e w' ⟨rfl, rfl⟩)
          change Code.wp _ _ _ _ (partW0 w)
          generalize partW0 w = wS at *
          have hW0' := hW0
          obtain ⟨a, hae⟩ : ∃ a, a = oneB pieceS L 0 := ⟨_, rfl⟩
          have hav : a = 0 := by rw [hae]; exact hav0.out
          rw [← hav] at hW0'
          rw [← hae] at hfound hnone
          replace hae := Lib.hid hae
          replace hav := Lib.hid hav
          clear hav0 hst5 hst3 hgk
          go_loopw [6, 7, 8, 9] (fun f _ _ _ wr => ∃ n : Nat, n ≤ 8 ∧ f = .int .i64 n ∧ (∀ n', n' < n → ¬ (restYes L a n' ∧ tailB L (endN L a n') = true)) ∧ PartW (startT L a) w wr) (fun f _ _ _ _ => 8 - (intOf f).toNat)
          case atStart => exact ⟨0, by omega, rfl, fun n' h => by omega, hW0'⟩
          case round =>
            clear hW0' hW0 hW1
            obtain ⟨n, hn, rfl, hno, hW⟩ := hrel
            by_cases hlt : n < 8
            · go_wp2_with (fail)
              refine (sanRest_at L hL _ a n (by have := hav.out; omega) (by have := hav.out; omega) hlt _).mono ?_
              rintro e w2 ⟨⟨hy, rfl⟩ | ⟨hy, X, rfl⟩, hb2⟩
              · have hE : a + offN n 3 + 2 + pN L (a + offN n 3 + 2) = endN L a n := rfl
                rw [hE]
                have hel := endN_le hy
                have hW2 := hW.below hb2
                have hW3 := hW2.below ((Below.refl _ _).alloc (Nat.le_refl _) (.cells (sixA (restAll L a n)) 44))
                have hg7 := six_new w2 (restAll L a n)
                have hgH : w.heap.size + 1 < w2.heap.size := hW2.2.1.lt
                have htl := fun w => sanTail_any (L.drop (endN L a n)) (by rw [List.length_drop]; omega) w
                have htb : tailL (L.drop (endN L a n)) = tailB L (endN L a n) := rfl
                rw [htb] at htl
                have hsf := slice_from L (endN L a n : Nat) (endN L a n) rfl hel.1
                have hpos : decide ((0 : Int) < (endN L a n : Nat)) = true := decide_eq_true (by omega)
                cases ht : tailB L (endN L a n)
                · rw [ht] at htl
                  have hno' := Lib.hid (show ∀ n', n' < n + 1 → ¬ (restYes L a n' ∧ tailB L (endN L a n') = true) from fun n' h' hh => by
                    rcases Nat.lt_succ_iff_lt_or_eq.1 h' with h1 | rfl
                    · exact hno n' h1 hh
                    · rw [ht] at hh; cases hh.2)
                  replace htl := Lib.hid htl
                  replace hW3 := Lib.hid hW3
                  clear hno ht hb2 hW hy hE hg7 htb
                  unfold sixA at *
                  generalize restAll L a n = X at *
                  generalize endN L a n = E at *
                  generalize L.drop E = y at *
                  go_wp2_with (go_at_call 20; refine (htl.out _).mono ?_; rintro e w' ⟨rfl, rfl⟩)
                  exact ⟨⟨n + 1, by omega, by go_num, hno'.out, hW3.out⟩, by simp [intOf]; omega⟩
                · rw [ht] at htl
                  have hfin : OutS L (listT (outT L a n)) true := hfound.out n hy ht
                  have hcz : PartW (copyT L a n 0) w _ := hW3.congr fun j _ => (copyT_zero L a n j).symm
                  have hcs : ∀ k j, j < 8 → (if j = 1 + k then restAll L a n k else copyT L a n k j) = copyT L a n (k + 1) j := fun k j hj => copyT_succ L a n k j hj
                  have hco : ∀ j, j < 8 → copyT L a n 6 j = outT L a n j := fun j hj => copyT_out L a n j hj
                  replace htl := Lib.hid htl
                  replace hfin := Lib.hid hfin
                  replace hcs := Lib.hid hcs
                  replace hco := Lib.hid hco
                  clear hno ht hb2 hW hW2 hW3 hy hE htb
                  unfold sixA at *
                  generalize restAll L a n = X at *
                  generalize copyT L a n = C at *
                  generalize outT L a n = O at *
                  generalize endN L a n = E at *
                  generalize L.drop E = y at *
                  replace hcz := Lib.hid hcz
                  replace hg7 := Lib.hid hg7
                  go_wp2_with (go_at_call 20; refine (htl.out _).mono ?_; rintro e w' ⟨rfl, rfl⟩)
                  replace hcz := hcz.out
                  replace hg7 := hg7.out
                  generalize (w2.alloc _) = w6 at *
                  generalize w2.heap.size = g7 at *
                  go_loopw [9] (fun k wr => ∃ q : Nat, q ≤ 6 ∧ k = .int .i64 q ∧ PartW (C q) w wr ∧ wr.rowIs g7 44 6 (tV X)) (fun k _ => 6 - (intOf k).toNat)
                  case atStart => exact ⟨0, by omega, rfl, hcz, hg7⟩
                  case round =>
                    clear hcz hg7
                    obtain ⟨q, hq, rfl, hcz, hg7⟩ := hrel
                    by_cases hq6 : q < 6
                    · have c7 := hg7.cell (i := q) (by omega)
                      have hc := hcz.2.1.cell (i := 1 + q) (by omega)
                      have hf := hcz.2.1.frozen (1 + q)
                      have hnext : PartW (C (q + 1)) w (wr.setCell ⟨w.heap.size + 1, 1 + q, none⟩ (.string (tx (X q)))) := (hcz.put (1 + q) (X q)).congr fun j hj => hcs.out q j hj
                      have hg7' := hg7.setOther (a := ⟨w.heap.size + 1, 1 + q, none⟩) (by show g7 ≠ w.heap.size + 1; omega) (.string (tx (X q)))
                      unfold tV at c7 hc
                      have hq0 : (0 : Int) ≤ (q : Int) := by omega
                      have hq7 : (q : Int) < 6 := by omega
                      replace hnext := Lib.hid hnext
                      replace hg7' := Lib.hid hg7'
                      clear hcz hg7
                      go_wp2_with (fail)
                      exact ⟨⟨q + 1, by omega, by go_num, hnext.out, hg7'.out⟩, by simp [intOf]; omega⟩
                    · obtain rfl : q = 6 := by omega
                      obtain ⟨c0', c1', c2', c3', c4', c5', c6', c7'⟩ := hcz.cells
                      have hth := Lib.hid hcz.there
                      have hans := Lib.hid (hcz.answer (C 6))
                      have hlst : listT (C 6) = listT O := by unfold listT; rw [hco.out 0 (by omega), hco.out 1 (by omega), hco.out 2 (by omega), hco.out 3 (by omega), hco.out 4 (by omega), hco.out 5 (by omega), hco.out 6 (by omega), hco.out 7 (by omega)]
                      replace hfin := hfin.out
                      rw [← hlst] at hfin
                      replace hfin := Lib.hid hfin
                      clear hcz hg7 hlst
                      generalize C 6 = C6 at *
                      go_wp2_with (refine wpList_store_mid rfl 22 _ _ rfl w.heap.size 0 (eightT C6) rfl rfl hth.out (by kernel_rfl) (by simp [eightT, Value.oneCell']) ?_)
                      obtain ⟨hrA, hBA⟩ := hans.out
                      generalize World.setCells _ _ _ _ = wB at *
                      clear c0' c1' c2' c3' c4' c5' c6' c7'
                      have d0 := hrA.cell (i := 0) (by omega)
                      have d1 := hrA.cell (i := 1) (by omega)
                      have d2 := hrA.cell (i := 2) (by omega)
                      have d3 := hrA.cell (i := 3) (by omega)
                      have d4 := hrA.cell (i := 4) (by omega)
                      have d5 := hrA.cell (i := 5) (by omega)
                      have d6 := hrA.cell (i := 6) (by omega)
                      have d7 := hrA.cell (i := 7) (by omega)
                      replace hBA := Lib.hid hBA
                      clear hrA
                      exact bodyPost_ret (v := .tuple #[.agg (eight (listT C6)), .bool true]) (by simp [results, Tryd.results6, go_sem, d0, d1, d2, d3, d4, d5, d6, d7]; rfl) rfl ⟨⟨_, _, rfl, hfin.out⟩, hBA.out⟩
              · have hE : True := trivial
                have hW2 := hW.below hb2
                have hW3 := Lib.hid (fun Y => hW2.below ((Below.refl _ _).alloc (Nat.le_refl _) Y))
                have hno' := Lib.hid (show ∀ n', n' < n + 1 → ¬ (restYes L a n' ∧ tailB L (endN L a n') = true) from fun n' h' hh => by
                  rcases Nat.lt_succ_iff_lt_or_eq.1 h' with h1 | rfl
                  · exact hno n' h1 hh
                  · exact hy hh.1)
                clear hno hb2 hW hW2 hy
                unfold sixA at *
                go_wp2_with (fail)
                exact ⟨⟨n + 1, by omega, by go_num, hno'.out, hW3.out _⟩, by simp [intOf]; omega⟩
            · obtain rfl : n = 8 := by omega
              have hfin := Lib.hid (fun l => hnone.out hno l)
              have hth := Lib.hid hW.there
              have hans := Lib.hid (hW.answer noT)
              clear hno hW
              go_wp2_with (refine wpList_store_mid rfl 22 _ _ rfl w.heap.size 0 (eightT noT) rfl rfl hth.out (by kernel_rfl) (by simp [eightT, Value.oneCell']) ?_)
              obtain ⟨hrA, hBA⟩ := hans.out
              generalize World.setCells _ _ _ _ = wB at *
              have d0 := hrA.cell (i := 0) (by omega)
              have d1 := hrA.cell (i := 1) (by omega)
              have d2 := hrA.cell (i := 2) (by omega)
              have d3 := hrA.cell (i := 3) (by omega)
              have d4 := hrA.cell (i := 4) (by omega)
              have d5 := hrA.cell (i := 5) (by omega)
              have d6 := hrA.cell (i := 6) (by omega)
              have d7 := hrA.cell (i := 7) (by omega)
              replace hBA := Lib.hid hBA
              clear hrA
              exact bodyPost_ret (v := .tuple #[.agg (eight (listT noT)), .bool false]) (by simp [results, Tryd.results6, go_sem, d0, d1, d2, d3, d4, d5, d6, d7]; rfl) rfl ⟨⟨_, _, rfl, hfin.out _⟩, hBA.out⟩
      · rcases h3 with hd3 | ⟨hd3, hb3⟩
        · have h1 := of_decide_eq_true hd5
          have h2 := of_decide_eq_false hd3
          omega
        · skip
          have hs5 := hst5 hd5
          generalize L.take 5 = z5 at *
          have hs3 := hst3 hd3
          generalize L.take 3 = z3 at *
          have hav0 := Lib.hid (oneB_no hP)
          replace hin := Lib.hid hin
          replace hP := Lib.hid hP
          generalize (((L.getD 0 0).toNat : Nat) : Int) = c0 at *
          go_enter Tryd.func6, Tryd.ntmps6
          go_wp2_with (go_at_call 21; refine (hin.out _).mono ?_; rintro e w' ⟨rfl, rfl⟩)
          change Code.wp _ _ _ _ (partW0 w)
          generalize partW0 w = wS at *
          have hW0' := hW0
          obtain ⟨a, hae⟩ : ∃ a, a = oneB pieceS L 0 := ⟨_, rfl⟩
          have hav : a = 0 := by rw [hae]; exact hav0.out
          rw [← hav] at hW0'
          rw [← hae] at hfound hnone
          replace hae := Lib.hid hae
          replace hav := Lib.hid hav
          clear hav0 hst5 hst3 hgk
          go_loopw [6, 7, 8, 9] (fun f _ _ _ wr => ∃ n : Nat, n ≤ 8 ∧ f = .int .i64 n ∧ (∀ n', n' < n → ¬ (restYes L a n' ∧ tailB L (endN L a n') = true)) ∧ PartW (startT L a) w wr) (fun f _ _ _ _ => 8 - (intOf f).toNat)
          case atStart => exact ⟨0, by omega, rfl, fun n' h => by omega, hW0'⟩
          case round =>
            clear hW0' hW0 hW1
            obtain ⟨n, hn, rfl, hno, hW⟩ := hrel
            by_cases hlt : n < 8
            · go_wp2_with (fail)
              refine (sanRest_at L hL _ a n (by have := hav.out; omega) (by have := hav.out; omega) hlt _).mono ?_
              rintro e w2 ⟨⟨hy, rfl⟩ | ⟨hy, X, rfl⟩, hb2⟩
              · have hE : a + offN n 3 + 2 + pN L (a + offN n 3 + 2) = endN L a n := rfl
                rw [hE]
                have hel := endN_le hy
                have hW2 := hW.below hb2
                have hW3 := hW2.below ((Below.refl _ _).alloc (Nat.le_refl _) (.cells (sixA (restAll L a n)) 44))
                have hg7 := six_new w2 (restAll L a n)
                have hgH : w.heap.size + 1 < w2.heap.size := hW2.2.1.lt
                have htl := fun w => sanTail_any (L.drop (endN L a n)) (by rw [List.length_drop]; omega) w
                have htb : tailL (L.drop (endN L a n)) = tailB L (endN L a n) := rfl
                rw [htb] at htl
                have hsf := slice_from L (endN L a n : Nat) (endN L a n) rfl hel.1
                have hpos : decide ((0 : Int) < (endN L a n : Nat)) = true := decide_eq_true (by omega)
                cases ht : tailB L (endN L a n)
                · rw [ht] at htl
                  have hno' := Lib.hid (show ∀ n', n' < n + 1 → ¬ (restYes L a n' ∧ tailB L (endN L a n') = true) from fun n' h' hh => by
                    rcases Nat.lt_succ_iff_lt_or_eq.1 h' with h1 | rfl
                    · exact hno n' h1 hh
                    · rw [ht] at hh; cases hh.2)
                  replace htl := Lib.hid htl
                  replace hW3 := Lib.hid hW3
                  clear hno ht hb2 hW hy hE hg7 htb
                  unfold sixA at *
                  generalize restAll L a n = X at *
                  generalize endN L a n = E at *
                  generalize L.drop E = y at *
                  go_wp2_with (go_at_call 20; refine (htl.out _).mono ?_; rintro e w' ⟨rfl, rfl⟩)
                  exact ⟨⟨n + 1, by omega, by go_num, hno'.out, hW3.out⟩, by simp [intOf]; omega⟩
                · rw [ht] at htl
                  have hfin : OutS L (listT (outT L a n)) true := hfound.out n hy ht
                  have hcz : PartW (copyT L a n 0) w _ := hW3.congr fun j _ => (copyT_zero L a n j).symm
                  have hcs : ∀ k j, j < 8 → (if j = 1 + k then restAll L a n k else copyT L a n k j) = copyT L a n (k + 1) j := fun k j hj => copyT_succ L a n k j hj
                  have hco : ∀ j, j < 8 → copyT L a n 6 j = outT L a n j := fun j hj => copyT_out L a n j hj
                  replace htl := Lib.hid htl
                  replace hfin := Lib.hid hfin
                  replace hcs := Lib.hid hcs
                  replace hco := Lib.hid hco
                  clear hno ht hb2 hW hW2 hW3 hy hE htb
                  unfold sixA at *
                  generalize restAll L a n = X at *
                  generalize copyT L a n = C at *
                  generalize outT L a n = O at *
                  generalize endN L a n = E at *
                  generalize L.drop E = y at *
                  replace hcz := Lib.hid hcz
                  replace hg7 := Lib.hid hg7
                  go_wp2_with (go_at_call 20; refine (htl.out _).mono ?_; rintro e w' ⟨rfl, rfl⟩)
                  replace hcz := hcz.out
                  replace hg7 := hg7.out
                  generalize (w2.alloc _) = w6 at *
                  generalize w2.heap.size = g7 at *
                  go_loopw [9] (fun k wr => ∃ q : Nat, q ≤ 6 ∧ k = .int .i64 q ∧ PartW (C q) w wr ∧ wr.rowIs g7 44 6 (tV X)) (fun k _ => 6 - (intOf k).toNat)
                  case atStart => exact ⟨0, by omega, rfl, hcz, hg7⟩
                  case round =>
                    clear hcz hg7
                    obtain ⟨q, hq, rfl, hcz, hg7⟩ := hrel
                    by_cases hq6 : q < 6
                    · have c7 := hg7.cell (i := q) (by omega)
                      have hc := hcz.2.1.cell (i := 1 + q) (by omega)
                      have hf := hcz.2.1.frozen (1 + q)
                      have hnext : PartW (C (q + 1)) w (wr.setCell ⟨w.heap.size + 1, 1 + q, none⟩ (.string (tx (X q)))) := (hcz.put (1 + q) (X q)).congr fun j hj => hcs.out q j hj
                      have hg7' := hg7.setOther (a := ⟨w.heap.size + 1, 1 + q, none⟩) (by show g7 ≠ w.heap.size + 1; omega) (.string (tx (X q)))
                      unfold tV at c7 hc
                      have hq0 : (0 : Int) ≤ (q : Int) := by omega
                      have hq7 : (q : Int) < 6 := by omega
                      replace hnext := Lib.hid hnext
                      replace hg7' := Lib.hid hg7'
                      clear hcz hg7
                      go_wp2_with (fail)
                      exact ⟨⟨q + 1, by omega, by go_num, hnext.out, hg7'.out⟩, by simp [intOf]; omega⟩
                    · obtain rfl : q = 6 := by omega
                      obtain ⟨c0', c1', c2', c3', c4', c5', c6', c7'⟩ := hcz.cells
                      have hth := Lib.hid hcz.there
                      have hans := Lib.hid (hcz.answer (C 6))
                      have hlst : listT (C 6) = listT O := by unfold listT; rw [hco.out 0 (by omega), hco.out 1 (by omega), hco.out 2 (by omega), hco.out 3 (by omega), hco.out 4 (by omega), hco.out 5 (by omega), hco.out 6 (by omega), hco.out 7 (by omega)]
                      replace hfin := hfin.out
                      rw [← hlst] at hfin
                      replace hfin := Lib.hid hfin
                      clear hcz hg7 hlst
                      generalize C 6 = C6 at *
                      go_wp2_with (refine wpList_store_mid rfl 22 _ _ rfl w.heap.size 0 (eightT C6) rfl rfl hth.out (by kernel_rfl) (by simp [eightT, Value.oneCell']) ?_)
                      obtain ⟨hrA, hBA⟩ := hans.out
                      generalize World.setCells _ _ _ _ = wB at *
                      clear c0' c1' c2' c3' c4' c5' c6' c7'
                      have d0 := hrA.cell (i := 0) (by omega)
                      have d1 := hrA.cell (i := 1) (by omega)
                      have d2 := hrA.cell (i := 2) (by omega)
                      have d3 := hrA.cell (i := 3) (by omega)
                      have d4 := hrA.cell (i := 4) (by omega)
                      have d5 := hrA.cell (i := 5) (by omega)
                      have d6 := hrA.cell (i := 6) (by omega)
                      have d7 := hrA.cell (i := 7) (by omega)
                      replace hBA := Lib.hid hBA
                      clear hrA
                      exact bodyPost_ret (v := .tuple #[.agg (eight (listT C6)), .bool true]) (by simp [results, Tryd.results6, go_sem, d0, d1, d2, d3, d4, d5, d6, d7]; rfl) rfl ⟨⟨_, _, rfl, hfin.out⟩, hBA.out⟩
              · have hE : True := trivial
                have hW2 := hW.below hb2
                have hW3 := Lib.hid (fun Y => hW2.below ((Below.refl _ _).alloc (Nat.le_refl _) Y))
                have hno' := Lib.hid (show ∀ n', n' < n + 1 → ¬ (restYes L a n' ∧ tailB L (endN L a n') = true) from fun n' h' hh => by
                  rcases Nat.lt_succ_iff_lt_or_eq.1 h' with h1 | rfl
                  · exact hno n' h1 hh
                  · exact hy hh.1)
                clear hno hb2 hW hW2 hy
                unfold sixA at *
                go_wp2_with (fail)
                exact ⟨⟨n + 1, by omega, by go_num, hno'.out, hW3.out _⟩, by simp [intOf]; omega⟩
            · obtain rfl : n = 8 := by omega
              have hfin := Lib.hid (fun l => hnone.out hno l)
              have hth := Lib.hid hW.there
              have hans := Lib.hid (hW.answer noT)
              clear hno hW
              go_wp2_with (refine wpList_store_mid rfl 22 _ _ rfl w.heap.size 0 (eightT noT) rfl rfl hth.out (by kernel_rfl) (by simp [eightT, Value.oneCell']) ?_)
              obtain ⟨hrA, hBA⟩ := hans.out
              generalize World.setCells _ _ _ _ = wB at *
              have d0 := hrA.cell (i := 0) (by omega)
              have d1 := hrA.cell (i := 1) (by omega)
              have d2 := hrA.cell (i := 2) (by omega)
              have d3 := hrA.cell (i := 3) (by omega)
              have d4 := hrA.cell (i := 4) (by omega)
              have d5 := hrA.cell (i := 5) (by omega)
              have d6 := hrA.cell (i := 6) (by omega)
              have d7 := hrA.cell (i := 7) (by omega)
              replace hBA := Lib.hid hBA
              clear hrA
              exact bodyPost_ret (v := .tuple #[.agg (eight (listT noT)), .bool false]) (by simp [results, Tryd.results6, go_sem, d0, d1, d2, d3, d4, d5, d6, d7]; rfl) rfl ⟨⟨_, _, rfl, hfin.out _⟩, hBA.out⟩
    · rw [hP] at hin
      rcases h5 with hd5 | ⟨hd5, hb5⟩
      · rcases h3 with hd3 | ⟨hd3, hb3⟩
        · skip
          have hav0 := Lib.hid (oneB_yes hP)
          have hs1 := slice_to L 1 1 rfl (by omega)
          replace hin := Lib.hid hin
          replace hP := Lib.hid hP
          generalize (((L.getD 0 0).toNat : Nat) : Int) = c0 at *
          go_enter Tryd.func6, Tryd.ntmps6
          go_wp2_with (go_at_call 21; refine (hin.out _).mono ?_; rintro e w' ⟨rfl, rfl⟩)
          change Code.wp _ _ _ _ ((w.alloc (.cells (eight []) 22)).alloc (.cells (eightT (startT L 1)) 22))
          generalize ((w.alloc (.cells (eight []) 22)).alloc (.cells (eightT (startT L 1)) 22)) = wS at *
          have hW1' := hW1
          obtain ⟨a, hae⟩ : ∃ a, a = oneB pieceS L 0 := ⟨_, rfl⟩
          have hav : a = 1 := by rw [hae]; exact hav0.out
          rw [← hav] at hW1'
          rw [← hae] at hfound hnone
          replace hae := Lib.hid hae
          replace hav := Lib.hid hav
          clear hav0 hst5 hst3 hgk
          go_loopw [6, 7, 8, 9] (fun f _ _ _ wr => ∃ n : Nat, n ≤ 8 ∧ f = .int .i64 n ∧ (∀ n', n' < n → ¬ (restYes L a n' ∧ tailB L (endN L a n') = true)) ∧ PartW (startT L a) w wr) (fun f _ _ _ _ => 8 - (intOf f).toNat)
          case atStart => exact ⟨0, by omega, rfl, fun n' h => by omega, hW1'⟩
          case round =>
            clear hW1' hW0 hW1
            obtain ⟨n, hn, rfl, hno, hW⟩ := hrel
            by_cases hlt : n < 8
            · go_wp2_with (fail)
              refine (sanRest_at L hL _ a n (by have := hav.out; omega) (by have := hav.out; omega) hlt _).mono ?_
              rintro e w2 ⟨⟨hy, rfl⟩ | ⟨hy, X, rfl⟩, hb2⟩
              · have hE : a + offN n 3 + 2 + pN L (a + offN n 3 + 2) = endN L a n := rfl
                rw [hE]
                have hel := endN_le hy
                have hW2 := hW.below hb2
                have hW3 := hW2.below ((Below.refl _ _).alloc (Nat.le_refl _) (.cells (sixA (restAll L a n)) 44))
                have hg7 := six_new w2 (restAll L a n)
                have hgH : w.heap.size + 1 < w2.heap.size := hW2.2.1.lt
                have htl := fun w => sanTail_any (L.drop (endN L a n)) (by rw [List.length_drop]; omega) w
                have htb : tailL (L.drop (endN L a n)) = tailB L (endN L a n) := rfl
                rw [htb] at htl
                have hsf := slice_from L (endN L a n : Nat) (endN L a n) rfl hel.1
                have hpos : decide ((0 : Int) < (endN L a n : Nat)) = true := decide_eq_true (by omega)
                cases ht : tailB L (endN L a n)
                · rw [ht] at htl
                  have hno' := Lib.hid (show ∀ n', n' < n + 1 → ¬ (restYes L a n' ∧ tailB L (endN L a n') = true) from fun n' h' hh => by
                    rcases Nat.lt_succ_iff_lt_or_eq.1 h' with h1 | rfl
                    · exact hno n' h1 hh
                    · rw [ht] at hh; cases hh.2)
                  replace htl := Lib.hid htl
                  replace hW3 := Lib.hid hW3
                  clear hno ht hb2 hW hy hE hg7 htb
                  unfold sixA at *
                  generalize restAll L a n = X at *
                  generalize endN L a n = E at *
                  generalize L.drop E = y at *
                  go_wp2_with (go_at_call 20; refine (htl.out _).mono ?_; rintro e w' ⟨rfl, rfl⟩)
                  exact ⟨⟨n + 1, by omega, by go_num, hno'.out, hW3.out⟩, by simp [intOf]; omega⟩
                · rw [ht] at htl
                  have hfin : OutS L (listT (outT L a n)) true := hfound.out n hy ht
                  have hcz : PartW (copyT L a n 0) w _ := hW3.congr fun j _ => (copyT_zero L a n j).symm
                  have hcs : ∀ k j, j < 8 → (if j = 1 + k then restAll L a n k else copyT L a n k j) = copyT L a n (k + 1) j := fun k j hj => copyT_succ L a n k j hj
                  have hco : ∀ j, j < 8 → copyT L a n 6 j = outT L a n j := fun j hj => copyT_out L a n j hj
                  replace htl := Lib.hid htl
                  replace hfin := Lib.hid hfin
                  replace hcs := Lib.hid hcs
                  replace hco := Lib.hid hco
                  clear hno ht hb2 hW hW2 hW3 hy hE htb
                  unfold sixA at *
                  generalize restAll L a n = X at *
                  generalize copyT L a n = C at *
                  generalize outT L a n = O at *
                  generalize endN L a n = E at *
                  generalize L.drop E = y at *
                  replace hcz := Lib.hid hcz
                  replace hg7 := Lib.hid hg7
                  go_wp2_with (go_at_call 20; refine (htl.out _).mono ?_; rintro e w' ⟨rfl, rfl⟩)
                  replace hcz := hcz.out
                  replace hg7 := hg7.out
                  generalize (w2.alloc _) = w6 at *
                  generalize w2.heap.size = g7 at *
                  go_loopw [9] (fun k wr => ∃ q : Nat, q ≤ 6 ∧ k = .int .i64 q ∧ PartW (C q) w wr ∧ wr.rowIs g7 44 6 (tV X)) (fun k _ => 6 - (intOf k).toNat)
                  case atStart => exact ⟨0, by omega, rfl, hcz, hg7⟩
                  case round =>
                    clear hcz hg7
                    obtain ⟨q, hq, rfl, hcz, hg7⟩ := hrel
                    by_cases hq6 : q < 6
                    · have c7 := hg7.cell (i := q) (by omega)
                      have hc := hcz.2.1.cell (i := 1 + q) (by omega)
                      have hf := hcz.2.1.frozen (1 + q)
                      have hnext : PartW (C (q + 1)) w (wr.setCell ⟨w.heap.size + 1, 1 + q, none⟩ (.string (tx (X q)))) := (hcz.put (1 + q) (X q)).congr fun j hj => hcs.out q j hj
                      have hg7' := hg7.setOther (a := ⟨w.heap.size + 1, 1 + q, none⟩) (by show g7 ≠ w.heap.size + 1; omega) (.string (tx (X q)))
                      unfold tV at c7 hc
                      have hq0 : (0 : Int) ≤ (q : Int) := by omega
                      have hq7 : (q : Int) < 6 := by omega
                      replace hnext := Lib.hid hnext
                      replace hg7' := Lib.hid hg7'
                      clear hcz hg7
                      go_wp2_with (fail)
                      exact ⟨⟨q + 1, by omega, by go_num, hnext.out, hg7'.out⟩, by simp [intOf]; omega⟩
                    · obtain rfl : q = 6 := by omega
                      obtain ⟨c0', c1', c2', c3', c4', c5', c6', c7'⟩ := hcz.cells
                      have hth := Lib.hid hcz.there
                      have hans := Lib.hid (hcz.answer (C 6))
                      have hlst : listT (C 6) = listT O := by unfold listT; rw [hco.out 0 (by omega), hco.out 1 (by omega), hco.out 2 (by omega), hco.out 3 (by omega), hco.out 4 (by omega), hco.out 5 (by omega), hco.out 6 (by omega), hco.out 7 (by omega)]
                      replace hfin := hfin.out
                      rw [← hlst] at hfin
                      replace hfin := Lib.hid hfin
                      clear hcz hg7 hlst
                      generalize C 6 = C6 at *
                      go_wp2_with (refine wpList_store_mid rfl 22 _ _ rfl w.heap.size 0 (eightT C6) rfl rfl hth.out (by kernel_rfl) (by simp [eightT, Value.oneCell']) ?_)
                      obtain ⟨hrA, hBA⟩ := hans.out
                      generalize World.setCells _ _ _ _ = wB at *
                      clear c0' c1' c2' c3' c4' c5' c6' c7'
                      have d0 := hrA.cell (i := 0) (by omega)
                      have d1 := hrA.cell (i := 1) (by omega)
                      have d2 := hrA.cell (i := 2) (by omega)
                      have d3 := hrA.cell (i := 3) (by omega)
                      have d4 := hrA.cell (i := 4) (by omega)
                      have d5 := hrA.cell (i := 5) (by omega)
                      have d6 := hrA.cell (i := 6) (by omega)
                      have d7 := hrA.cell (i := 7) (by omega)
                      replace hBA := Lib.hid hBA
                      clear hrA
                      exact bodyPost_ret (v := .tuple #[.agg (eight (listT C6)), .bool true]) (by simp [results, Tryd.results6, go_sem, d0, d1, d2, d3, d4, d5, d6, d7]; rfl) rfl ⟨⟨_, _, rfl, hfin.out⟩, hBA.out⟩
              · have hE : True := trivial
                have hW2 := hW.below hb2
                have hW3 := Lib.hid (fun Y => hW2.below ((Below.refl _ _).alloc (Nat.le_refl _) Y))
                have hno' := Lib.hid (show ∀ n', n' < n + 1 → ¬ (restYes L a n' ∧ tailB L (endN L a n') = true) from fun n' h' hh => by
                  rcases Nat.lt_succ_iff_lt_or_eq.1 h' with h1 | rfl
                  · exact hno n' h1 hh
                  · exact hy hh.1)
                clear hno hb2 hW hW2 hy
                unfold sixA at *
                go_wp2_with (fail)
                exact ⟨⟨n + 1, by omega, by go_num, hno'.out, hW3.out _⟩, by simp [intOf]; omega⟩
            · obtain rfl : n = 8 := by omega
              have hfin := Lib.hid (fun l => hnone.out hno l)
              have hth := Lib.hid hW.there
              have hans := Lib.hid (hW.answer noT)
              clear hno hW
              go_wp2_with (refine wpList_store_mid rfl 22 _ _ rfl w.heap.size 0 (eightT noT) rfl rfl hth.out (by kernel_rfl) (by simp [eightT, Value.oneCell']) ?_)
              obtain ⟨hrA, hBA⟩ := hans.out
              generalize World.setCells _ _ _ _ = wB at *
              have d0 := hrA.cell (i := 0) (by omega)
              have d1 := hrA.cell (i := 1) (by omega)
              have d2 := hrA.cell (i := 2) (by omega)
              have d3 := hrA.cell (i := 3) (by omega)
              have d4 := hrA.cell (i := 4) (by omega)
              have d5 := hrA.cell (i := 5) (by omega)
              have d6 := hrA.cell (i := 6) (by omega)
              have d7 := hrA.cell (i := 7) (by omega)
              replace hBA := Lib.hid hBA
              clear hrA
              exact bodyPost_ret (v := .tuple #[.agg (eight (listT noT)), .bool false]) (by simp [results, Tryd.results6, go_sem, d0, d1, d2, d3, d4, d5, d6, d7]; rfl) rfl ⟨⟨_, _, rfl, hfin.out _⟩, hBA.out⟩
        · skip
          have hs3 := hst3 hd3
          generalize L.take 3 = z3 at *
          have hav0 := Lib.hid (oneB_yes hP)
          have hs1 := slice_to L 1 1 rfl (by omega)
          replace hin := Lib.hid hin
          replace hP := Lib.hid hP
          generalize (((L.getD 0 0).toNat : Nat) : Int) = c0 at *
          go_enter Tryd.func6, Tryd.ntmps6
          go_wp2_with (go_at_call 21; refine (hin.out _).mono ?_; rintro e w' ⟨rfl, rfl⟩)
          change Code.wp _ _ _ _ ((w.alloc (.cells (eight []) 22)).alloc (.cells (eightT (startT L 1)) 22))
          generalize ((w.alloc (.cells (eight []) 22)).alloc (.cells (eightT (startT L 1)) 22)) = wS at *
          have hW1' := hW1
          obtain ⟨a, hae⟩ : ∃ a, a = oneB pieceS L 0 := ⟨_, rfl⟩
          have hav : a = 1 := by rw [hae]; exact hav0.out
          rw [← hav] at hW1'
          rw [← hae] at hfound hnone
          replace hae := Lib.hid hae
          replace hav := Lib.hid hav
          clear hav0 hst5 hst3 hgk
          go_loopw [6, 7, 8, 9] (fun f _ _ _ wr => ∃ n : Nat, n ≤ 8 ∧ f = .int .i64 n ∧ (∀ n', n' < n → ¬ (restYes L a n' ∧ tailB L (endN L a n') = true)) ∧ PartW (startT L a) w wr) (fun f _ _ _ _ => 8 - (intOf f).toNat)
          case atStart => exact ⟨0, by omega, rfl, fun n' h => by omega, hW1'⟩
          case round =>
            clear hW1' hW0 hW1
            obtain ⟨n, hn, rfl, hno, hW⟩ := hrel
            by_cases hlt : n < 8
            · go_wp2_with (fail)
              refine (sanRest_at L hL _ a n (by have := hav.out; omega) (by have := hav.out; omega) hlt _).mono ?_
              rintro e w2 ⟨⟨hy, rfl⟩ | ⟨hy, X, rfl⟩, hb2⟩
              · have hE : a + offN n 3 + 2 + pN L (a + offN n 3 + 2) = endN L a n := rfl
                rw [hE]
                have hel := endN_le hy
                have hW2 := hW.below hb2
                have hW3 := hW2.below ((Below.refl _ _).alloc (Nat.le_refl _) (.cells (sixA (restAll L a n)) 44))
                have hg7 := six_new w2 (restAll L a n)
                have hgH : w.heap.size + 1 < w2.heap.size := hW2.2.1.lt
                have htl := fun w => sanTail_any (L.drop (endN L a n)) (by rw [List.length_drop]; omega) w
                have htb : tailL (L.drop (endN L a n)) = tailB L (endN L a n) := rfl
                rw [htb] at htl
                have hsf := slice_from L (endN L a n : Nat) (endN L a n) rfl hel.1
                have hpos : decide ((0 : Int) < (endN L a n : Nat)) = true := decide_eq_true (by omega)
                cases ht : tailB L (endN L a n)
                · rw [ht] at htl
                  have hno' := Lib.hid (show ∀ n', n' < n + 1 → ¬ (restYes L a n' ∧ tailB L (endN L a n') = true) from fun n' h' hh => by
                    rcases Nat.lt_succ_iff_lt_or_eq.1 h' with h1 | rfl
                    · exact hno n' h1 hh
                    · rw [ht] at hh; cases hh.2)
                  replace htl := Lib.hid htl
                  replace hW3 := Lib.hid hW3
                  clear hno ht hb2 hW hy hE hg7 htb
                  unfold sixA at *
                  generalize restAll L a n = X at *
                  generalize endN L a n = E at *
                  generalize L.drop E = y at *
                  go_wp2_with (go_at_call 20; refine (htl.out _).mono ?_; rintro e w' ⟨rfl, rfl⟩)
                  exact ⟨⟨n + 1, by omega, by go_num, hno'.out, hW3.out⟩, by simp [intOf]; omega⟩
                · rw [ht] at htl
                  have hfin : OutS L (listT (outT L a n)) true := hfound.out n hy ht
                  have hcz : PartW (copyT L a n 0) w _ := hW3.congr fun j _ => (copyT_zero L a n j).symm
                  have hcs : ∀ k j, j < 8 → (if j = 1 + k then restAll L a n k else copyT L a n k j) = copyT L a n (k + 1) j := fun k j hj => copyT_succ L a n k j hj
                  have hco : ∀ j, j < 8 → copyT L a n 6 j = outT L a n j := fun j hj => copyT_out L a n j hj
                  replace htl := Lib.hid htl
                  replace hfin := Lib.hid hfin
                  replace hcs := Lib.hid hcs
                  replace hco := Lib.hid hco
                  clear hno ht hb2 hW hW2 hW3 hy hE htb
                  unfold sixA at *
                  generalize restAll L a n = X at *
                  generalize copyT L a n = C at *
                  generalize outT L a n = O at *
                  generalize endN L a n = E at *
                  generalize L.drop E = y at *
                  replace hcz := Lib.hid hcz
                  replace hg7 := Lib.hid hg7
                  go_wp2_with (go_at_call 20; refine (htl.out _).mono ?_; rintro e w' ⟨rfl, rfl⟩)
                  replace hcz := hcz.out
                  replace hg7 := hg7.out
                  generalize (w2.alloc _) = w6 at *
                  generalize w2.heap.size = g7 at *
                  go_loopw [9] (fun k wr => ∃ q : Nat, q ≤ 6 ∧ k = .int .i64 q ∧ PartW (C q) w wr ∧ wr.rowIs g7 44 6 (tV X)) (fun k _ => 6 - (intOf k).toNat)
                  case atStart => exact ⟨0, by omega, rfl, hcz, hg7⟩
                  case round =>
                    clear hcz hg7
                    obtain ⟨q, hq, rfl, hcz, hg7⟩ := hrel
                    by_cases hq6 : q < 6
                    · have c7 := hg7.cell (i := q) (by omega)
                      have hc := hcz.2.1.cell (i := 1 + q) (by omega)
                      have hf := hcz.2.1.frozen (1 + q)
                      have hnext : PartW (C (q + 1)) w (wr.setCell ⟨w.heap.size + 1, 1 + q, none⟩ (.string (tx (X q)))) := (hcz.put (1 + q) (X q)).congr fun j hj => hcs.out q j hj
                      have hg7' := hg7.setOther (a := ⟨w.heap.size + 1, 1 + q, none⟩) (by show g7 ≠ w.heap.size + 1; omega) (.string (tx (X q)))
                      unfold tV at c7 hc
                      have hq0 : (0 : Int) ≤ (q : Int) := by omega
                      have hq7 : (q : Int) < 6 := by omega
                      replace hnext := Lib.hid hnext
                      replace hg7' := Lib.hid hg7'
                      clear hcz hg7
                      go_wp2_with (fail)
                      exact ⟨⟨q + 1, by omega, by go_num, hnext.out, hg7'.out⟩, by simp [intOf]; omega⟩
                    · obtain rfl : q = 6 := by omega
                      obtain ⟨c0', c1', c2', c3', c4', c5', c6', c7'⟩ := hcz.cells
                      have hth := Lib.hid hcz.there
                      have hans := Lib.hid (hcz.answer (C 6))
                      have hlst : listT (C 6) = listT O := by unfold listT; rw [hco.out 0 (by omega), hco.out 1 (by omega), hco.out 2 (by omega), hco.out 3 (by omega), hco.out 4 (by omega), hco.out 5 (by omega), hco.out 6 (by omega), hco.out 7 (by omega)]
                      replace hfin := hfin.out
                      rw [← hlst] at hfin
                      replace hfin := Lib.hid hfin
                      clear hcz hg7 hlst
                      generalize C 6 = C6 at *
                      go_wp2_with (refine wpList_store_mid rfl 22 _ _ rfl w.heap.size 0 (eightT C6) rfl rfl hth.out (by kernel_rfl) (by simp [eightT, Value.oneCell']) ?_)
                      obtain ⟨hrA, hBA⟩ := hans.out
                      generalize World.setCells _ _ _ _ = wB at *
                      clear c0' c1' c2' c3' c4' c5' c6' c7'
                      have d0 := hrA.cell (i := 0) (by omega)
                      have d1 := hrA.cell (i := 1) (by omega)
                      have d2 := hrA.cell (i := 2) (by omega)
                      have d3 := hrA.cell (i := 3) (by omega)
                      have d4 := hrA.cell (i := 4) (by omega)
                      have d5 := hrA.cell (i := 5) (by omega)
                      have d6 := hrA.cell (i := 6) (by omega)
                      have d7 := hrA.cell (i := 7) (by omega)
                      replace hBA := Lib.hid hBA
                      clear hrA
                      exact bodyPost_ret (v := .tuple #[.agg (eight (listT C6)), .bool true]) (by simp [results, Tryd.results6, go_sem, d0, d1, d2, d3, d4, d5, d6, d7]; rfl) rfl ⟨⟨_, _, rfl, hfin.out⟩, hBA.out⟩
              · have hE : True := trivial
                have hW2 := hW.below hb2
                have hW3 := Lib.hid (fun Y => hW2.below ((Below.refl _ _).alloc (Nat.le_refl _) Y))
                have hno' := Lib.hid (show ∀ n', n' < n + 1 → ¬ (restYes L a n' ∧ tailB L (endN L a n') = true) from fun n' h' hh => by
                  rcases Nat.lt_succ_iff_lt_or_eq.1 h' with h1 | rfl
                  · exact hno n' h1 hh
                  · exact hy hh.1)
                clear hno hb2 hW hW2 hy
                unfold sixA at *
                go_wp2_with (fail)
                exact ⟨⟨n + 1, by omega, by go_num, hno'.out, hW3.out _⟩, by simp [intOf]; omega⟩
            · obtain rfl : n = 8 := by omega
              have hfin := Lib.hid (fun l => hnone.out hno l)
              have hth := Lib.hid hW.there
              have hans := Lib.hid (hW.answer noT)
              clear hno hW
              go_wp2_with (refine wpList_store_mid rfl 22 _ _ rfl w.heap.size 0 (eightT noT) rfl rfl hth.out (by kernel_rfl) (by simp [eightT, Value.oneCell']) ?_)
              obtain ⟨hrA, hBA⟩ := hans.out
              generalize World.setCells _ _ _ _ = wB at *
              have d0 := hrA.cell (i := 0) (by omega)
              have d1 := hrA.cell (i := 1) (by omega)
              have d2 := hrA.cell (i := 2) (by omega)
              have d3 := hrA.cell (i := 3) (by omega)
              have d4 := hrA.cell (i := 4) (by omega)
              have d5 := hrA.cell (i := 5) (by omega)
              have d6 := hrA.cell (i := 6) (by omega)
              have d7 := hrA.cell (i := 7) (by omega)
              replace hBA := Lib.hid hBA
              clear hrA
              exact bodyPost_ret (v := .tuple #[.agg (eight (listT noT)), .bool false]) (by simp [results, Tryd.results6, go_sem, d0, d1, d2, d3, d4, d5, d6, d7]; rfl) rfl ⟨⟨_, _, rfl, hfin.out _⟩, hBA.out⟩
      · rcases h3 with hd3 | ⟨hd3, hb3⟩
        · have h1 := of_decide_eq_true hd5
          have h2 := of_decide_eq_false hd3
          omega
        · skip
          have hs5 := hst5 hd5
          generalize L.take 5 = z5 at *
          have hs3 := hst3 hd3
          generalize L.take 3 = z3 at *
          have hav0 := Lib.hid (oneB_yes hP)
          have hs1 := slice_to L 1 1 rfl (by omega)
          replace hin := Lib.hid hin
          replace hP := Lib.hid hP
          generalize (((L.getD 0 0).toNat : Nat) : Int) = c0 at *
          go_enter Tryd.func6, Tryd.ntmps6
          go_wp2_with (go_at_call 21; refine (hin.out _).mono ?_; rintro e w' ⟨rfl, rfl⟩)
          change Code.wp _ _ _ _ ((w.alloc (.cells (eight []) 22)).alloc (.cells (eightT (startT L 1)) 22))
          generalize ((w.alloc (.cells (eight []) 22)).alloc (.cells (eightT (startT L 1)) 22)) = wS at *
          have hW1' := hW1
          obtain ⟨a, hae⟩ : ∃ a, a = oneB pieceS L 0 := ⟨_, rfl⟩
          have hav : a = 1 := by rw [hae]; exact hav0.out
          rw [← hav] at hW1'
          rw [← hae] at hfound hnone
          replace hae := Lib.hid hae
          replace hav := Lib.hid hav
          clear hav0 hst5 hst3 hgk
          go_loopw [6, 7, 8, 9] (fun f _ _ _ wr => ∃ n : Nat, n ≤ 8 ∧ f = .int .i64 n ∧ (∀ n', n' < n → ¬ (restYes L a n' ∧ tailB L (endN L a n') = true)) ∧ PartW (startT L a) w wr) (fun f _ _ _ _ => 8 - (intOf f).toNat)
          case atStart => exact ⟨0, by omega, rfl, fun n' h => by omega, hW1'⟩
          case round =>
            clear hW1' hW0 hW1
            obtain ⟨n, hn, rfl, hno, hW⟩ := hrel
            by_cases hlt : n < 8
            · go_wp2_with (fail)
              refine (sanRest_at L hL _ a n (by have := hav.out; omega) (by have := hav.out; omega) hlt _).mono ?_
              rintro e w2 ⟨⟨hy, rfl⟩ | ⟨hy, X, rfl⟩, hb2⟩
              · have hE : a + offN n 3 + 2 + pN L (a + offN n 3 + 2) = endN L a n := rfl
                rw [hE]
                have hel := endN_le hy
                have hW2 := hW.below hb2
                have hW3 := hW2.below ((Below.refl _ _).alloc (Nat.le_refl _) (.cells (sixA (restAll L a n)) 44))
                have hg7 := six_new w2 (restAll L a n)
                have hgH : w.heap.size + 1 < w2.heap.size := hW2.2.1.lt
                have htl := fun w => sanTail_any (L.drop (endN L a n)) (by rw [List.length_drop]; omega) w
                have htb : tailL (L.drop (endN L a n)) = tailB L (endN L a n) := rfl
                rw [htb] at htl
                have hsf := slice_from L (endN L a n : Nat) (endN L a n) rfl hel.1
                have hpos : decide ((0 : Int) < (endN L a n : Nat)) = true := decide_eq_true (by omega)
                cases ht : tailB L (endN L a n)
                · rw [ht] at htl
                  have hno' := Lib.hid (show ∀ n', n' < n + 1 → ¬ (restYes L a n' ∧ tailB L (endN L a n') = true) from fun n' h' hh => by
                    rcases Nat.lt_succ_iff_lt_or_eq.1 h' with h1 | rfl
                    · exact hno n' h1 hh
                    · rw [ht] at hh; cases hh.2)
                  replace htl := Lib.hid htl
                  replace hW3 := Lib.hid hW3
                  clear hno ht hb2 hW hy hE hg7 htb
                  unfold sixA at *
                  generalize restAll L a n = X at *
                  generalize endN L a n = E at *
                  generalize L.drop E = y at *
                  go_wp2_with (go_at_call 20; refine (htl.out _).mono ?_; rintro e w' ⟨rfl, rfl⟩)
                  exact ⟨⟨n + 1, by omega, by go_num, hno'.out, hW3.out⟩, by simp [intOf]; omega⟩
                · rw [ht] at htl
                  have hfin : OutS L (listT (outT L a n)) true := hfound.out n hy ht
                  have hcz : PartW (copyT L a n 0) w _ := hW3.congr fun j _ => (copyT_zero L a n j).symm
                  have hcs : ∀ k j, j < 8 → (if j = 1 + k then restAll L a n k else copyT L a n k j) = copyT L a n (k + 1) j := fun k j hj => copyT_succ L a n k j hj
                  have hco : ∀ j, j < 8 → copyT L a n 6 j = outT L a n j := fun j hj => copyT_out L a n j hj
                  replace htl := Lib.hid htl
                  replace hfin := Lib.hid hfin
                  replace hcs := Lib.hid hcs
                  replace hco := Lib.hid hco
                  clear hno ht hb2 hW hW2 hW3 hy hE htb
                  unfold sixA at *
                  generalize restAll L a n = X at *
                  generalize copyT L a n = C at *
                  generalize outT L a n = O at *
                  generalize endN L a n = E at *
                  generalize L.drop E = y at *
                  replace hcz := Lib.hid hcz
                  replace hg7 := Lib.hid hg7
                  go_wp2_with (go_at_call 20; refine (htl.out _).mono ?_; rintro e w' ⟨rfl, rfl⟩)
                  replace hcz := hcz.out
                  replace hg7 := hg7.out
                  generalize (w2.alloc _) = w6 at *
                  generalize w2.heap.size = g7 at *
                  go_loopw [9] (fun k wr => ∃ q : Nat, q ≤ 6 ∧ k = .int .i64 q ∧ PartW (C q) w wr ∧ wr.rowIs g7 44 6 (tV X)) (fun k _ => 6 - (intOf k).toNat)
                  case atStart => exact ⟨0, by omega, rfl, hcz, hg7⟩
                  case round =>
                    clear hcz hg7
                    obtain ⟨q, hq, rfl, hcz, hg7⟩ := hrel
                    by_cases hq6 : q < 6
                    · have c7 := hg7.cell (i := q) (by omega)
                      have hc := hcz.2.1.cell (i := 1 + q) (by omega)
                      have hf := hcz.2.1.frozen (1 + q)
                      have hnext : PartW (C (q + 1)) w (wr.setCell ⟨w.heap.size + 1, 1 + q, none⟩ (.string (tx (X q)))) := (hcz.put (1 + q) (X q)).congr fun j hj => hcs.out q j hj
                      have hg7' := hg7.setOther (a := ⟨w.heap.size + 1, 1 + q, none⟩) (by show g7 ≠ w.heap.size + 1; omega) (.string (tx (X q)))
                      unfold tV at c7 hc
                      have hq0 : (0 : Int) ≤ (q : Int) := by omega
                      have hq7 : (q : Int) < 6 := by omega
                      replace hnext := Lib.hid hnext
                      replace hg7' := Lib.hid hg7'
                      clear hcz hg7
                      go_wp2_with (fail)
                      exact ⟨⟨q + 1, by omega, by go_num, hnext.out, hg7'.out⟩, by simp [intOf]; omega⟩
                    · obtain rfl : q = 6 := by omega
                      obtain ⟨c0', c1', c2', c3', c4', c5', c6', c7'⟩ := hcz.cells
                      have hth := Lib.hid hcz.there
                      have hans := Lib.hid (hcz.answer (C 6))
                      have hlst : listT (C 6) = listT O := by unfold listT; rw [hco.out 0 (by omega), hco.out 1 (by omega), hco.out 2 (by omega), hco.out 3 (by omega), hco.out 4 (by omega), hco.out 5 (by omega), hco.out 6 (by omega), hco.out 7 (by omega)]
                      replace hfin := hfin.out
                      rw [← hlst] at hfin
                      replace hfin := Lib.hid hfin
                      clear hcz hg7 hlst
                      generalize C 6 = C6 at *
                      go_wp2_with (refine wpList_store_mid rfl 22 _ _ rfl w.heap.size 0 (eightT C6) rfl rfl hth.out (by kernel_rfl) (by simp [eightT, Value.oneCell']) ?_)
                      obtain ⟨hrA, hBA⟩ := hans.out
                      generalize World.setCells _ _ _ _ = wB at *
                      clear c0' c1' c2' c3' c4' c5' c6' c7'
                      have d0 := hrA.cell (i := 0) (by omega)
                      have d1 := hrA.cell (i := 1) (by omega)
                      have d2 := hrA.cell (i := 2) (by omega)
                      have d3 := hrA.cell (i := 3) (by omega)
                      have d4 := hrA.cell (i := 4) (by omega)
                      have d5 := hrA.cell (i := 5) (by omega)
                      have d6 := hrA.cell (i := 6) (by omega)
                      have d7 := hrA.cell (i := 7) (by omega)
                      replace hBA := Lib.hid hBA
                      clear hrA
                      exact bodyPost_ret (v := .tuple #[.agg (eight (listT C6)), .bool true]) (by simp [results, Tryd.results6, go_sem, d0, d1, d2, d3, d4, d5, d6, d7]; rfl) rfl ⟨⟨_, _, rfl, hfin.out⟩, hBA.out⟩
              · have hE : True := trivial
                have hW2 := hW.below hb2
                have hW3 := Lib.hid (fun Y => hW2.below ((Below.refl _ _).alloc (Nat.le_refl _) Y))
                have hno' := Lib.hid (show ∀ n', n' < n + 1 → ¬ (restYes L a n' ∧ tailB L (endN L a n') = true) from fun n' h' hh => by
                  rcases Nat.lt_succ_iff_lt_or_eq.1 h' with h1 | rfl
                  · exact hno n' h1 hh
                  · exact hy hh.1)
                clear hno hb2 hW hW2 hy
                unfold sixA at *
                go_wp2_with (fail)
                exact ⟨⟨n + 1, by omega, by go_num, hno'.out, hW3.out _⟩, by simp [intOf]; omega⟩
            · obtain rfl : n = 8 := by omega
              have hfin := Lib.hid (fun l => hnone.out hno l)
              have hth := Lib.hid hW.there
              have hans := Lib.hid (hW.answer noT)
              clear hno hW
              go_wp2_with (refine wpList_store_mid rfl 22 _ _ rfl w.heap.size 0 (eightT noT) rfl rfl hth.out (by kernel_rfl) (by simp [eightT, Value.oneCell']) ?_)
              obtain ⟨hrA, hBA⟩ := hans.out
              generalize World.setCells _ _ _ _ = wB at *
              have d0 := hrA.cell (i := 0) (by omega)
              have d1 := hrA.cell (i := 1) (by omega)
              have d2 := hrA.cell (i := 2) (by omega)
              have d3 := hrA.cell (i := 3) (by omega)
              have d4 := hrA.cell (i := 4) (by omega)
              have d5 := hrA.cell (i := 5) (by omega)
              have d6 := hrA.cell (i := 6) (by omega)
              have d7 := hrA.cell (i := 7) (by omega)
              replace hBA := Lib.hid hBA
              clear hrA
              exact bodyPost_ret (v := .tuple #[.agg (eight (listT noT)), .bool false]) (by simp [results, Tryd.results6, go_sem, d0, d1, d2, d3, d4, d5, d6, d7]; rfl) rfl ⟨⟨_, _, rfl, hfin.out _⟩, hBA.out⟩
  · have hdl : decide ((0 : Int) < (L.length : Int)) = false := decide_eq_false (by omega)
    have hd5 : decide ((5 : Int) ≤ (L.length : Int)) = false := decide_eq_false (by omega)
    have hd3 : decide ((3 : Int) ≤ (L.length : Int)) = false := decide_eq_false (by omega)
    clear h5 h3
    have hav0 := Lib.hid (oneB_no (has_far (S := pieceS) (L := L) (i := 0) (by omega)))
    go_enter Tryd.func6, Tryd.ntmps6
    go_wp2_with (fail)
    change Code.wp _ _ _ _ (partW0 w)
    generalize partW0 w = wS at *
    have hW0' := hW0
    obtain ⟨a, hae⟩ : ∃ a, a = oneB pieceS L 0 := ⟨_, rfl⟩
    have hav : a = 0 := by rw [hae]; exact hav0.out
    rw [← hav] at hW0'
    rw [← hae] at hfound hnone
    replace hae := Lib.hid hae
    replace hav := Lib.hid hav
    clear hav0 hst5 hst3 hgk
    go_loopw [6, 7, 8, 9] (fun f _ _ _ wr => ∃ n : Nat, n ≤ 8 ∧ f = .int .i64 n ∧ (∀ n', n' < n → ¬ (restYes L a n' ∧ tailB L (endN L a n') = true)) ∧ PartW (startT L a) w wr) (fun f _ _ _ _ => 8 - (intOf f).toNat)
    case atStart => exact ⟨0, by omega, rfl, fun n' h => by omega, hW0'⟩
    case round =>
      clear hW0' hW0 hW1
      obtain ⟨n, hn, rfl, hno, hW⟩ := hrel
      by_cases hlt : n < 8
      · go_wp2_with (fail)
        refine (sanRest_at L hL _ a n (by have := hav.out; omega) (by have := hav.out; omega) hlt _).mono ?_
        rintro e w2 ⟨⟨hy, rfl⟩ | ⟨hy, X, rfl⟩, hb2⟩
        · have hel := endN_le hy
          omega
        · have hE : True := trivial
          have hW2 := hW.below hb2
          have hW3 := Lib.hid (fun Y => hW2.below ((Below.refl _ _).alloc (Nat.le_refl _) Y))
          have hno' := Lib.hid (show ∀ n', n' < n + 1 → ¬ (restYes L a n' ∧ tailB L (endN L a n') = true) from fun n' h' hh => by
            rcases Nat.lt_succ_iff_lt_or_eq.1 h' with h1 | rfl
            · exact hno n' h1 hh
            · exact hy hh.1)
          clear hno hb2 hW hW2 hy
          unfold sixA at *
          go_wp2_with (fail)
          exact ⟨⟨n + 1, by omega, by go_num, hno'.out, hW3.out _⟩, by simp [intOf]; omega⟩
      · obtain rfl : n = 8 := by omega
        have hfin := Lib.hid (fun l => hnone.out hno l)
        have hth := Lib.hid hW.there
        have hans := Lib.hid (hW.answer noT)
        clear hno hW
        go_wp2_with (refine wpList_store_mid rfl 22 _ _ rfl w.heap.size 0 (eightT noT) rfl rfl hth.out (by kernel_rfl) (by simp [eightT, Value.oneCell']) ?_)
        obtain ⟨hrA, hBA⟩ := hans.out
        generalize World.setCells _ _ _ _ = wB at *
        have d0 := hrA.cell (i := 0) (by omega)
        have d1 := hrA.cell (i := 1) (by omega)
        have d2 := hrA.cell (i := 2) (by omega)
        have d3 := hrA.cell (i := 3) (by omega)
        have d4 := hrA.cell (i := 4) (by omega)
        have d5 := hrA.cell (i := 5) (by omega)
        have d6 := hrA.cell (i := 6) (by omega)
        have d7 := hrA.cell (i := 7) (by omega)
        replace hBA := Lib.hid hBA
        clear hrA
        exact bodyPost_ret (v := .tuple #[.agg (eight (listT noT)), .bool false]) (by simp [results, Tryd.results6, go_sem, d0, d1, d2, d3, d4, d5, d6, d7]; rfl) rfl ⟨⟨_, _, rfl, hfin.out _⟩, hBA.out⟩
end Go.Proofs.YtkbbncobgmepbaaDoor

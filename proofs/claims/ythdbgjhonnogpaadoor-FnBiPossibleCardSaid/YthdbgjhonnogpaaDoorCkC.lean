/- Check, the program's side: impl.position. -/
import Derived.Test.YthdbgjhonnogpaaDoorCkB
import Derived.Deep.RegionHeld3
import Derived.Deep.MidRow
namespace Go.Proofs.YthdbgjhonnogpaaDoor
open Go.ChangeShapes Go.WideShapes Go.ChangeAt Go.RowKit Plain
set_option maxHeartbeats 1000000
set_option linter.unusedVariables false
set_option linter.unusedSimpArgs false

/-- A right to castle is told. -/
def bitG (x : Int) (k : Nat) : Bool := bits BinOp.and IntKind.i64 (x / 2 ^ k) 1 == 1
def letC : Nat → ByteArray
  | 0 => { data := #[75] } | 1 => { data := #[81] } | 2 => { data := #[107] } | _ => { data := #[113] }
def casB (x : Int) : Nat → ByteArray
  | 0 => { data := #[] }
  | k + 1 => if bitG x k then casB x k ++ letC k else casB x k
theorem not_big {n : Nat} (h : n ≤ 100) : ¬ 9223372036854775807 < n := fun h2 => absurd (Nat.lt_of_lt_of_le h2 h) (by decide)
theorem letC_size (k : Nat) : (letC k).size = 1 := by
  unfold letC
  split <;> rfl
theorem casB_size (x : Int) : ∀ k, (casB x k).size ≤ k
  | 0 => Nat.le_refl _
  | k + 1 => by
    have := casB_size x k
    unfold casB
    split
    · rw [ByteArray.size_append, letC_size]; omega
    · omega
/-- The rights to castle, as a text. -/
def casT (x : Int) : ByteArray := if (casB x 4).toList.isEmpty then { data := #[45] } else casB x 4
/-- A position's board, as a range. -/
theorem pos_range64 {w : World} {b : Nat} {g : Nat → Int} (h : w.rowIs b 24 69 (fun i => .int .i64 (g i))) : w.rangeAt b 0 (rowArr 64 fun i => .int .i64 (g i)).toList := by
  intro j v hv
  have hj : j < 64 := by
    have := (List.getElem?_eq_some_iff.1 hv).1
    simpa [rowArr_size] using this
  rw [Nat.zero_add, h.cell (show j < 69 by omega)]
  simp [rowArr, hj] at hv
  rw [← hv]
/-- What impl.position leaves. -/
def LaidP (g : Nat → Int) (c : Nat) (w : World) (e : Ending) (w' : World) : Prop :=
  ∃ gp gb, e = .returned (.pointer (some ⟨gp, 0, none⟩)) ∧ w.heap.size ≤ gp ∧ w.heap.size ≤ gb ∧ w'.rowIs gb tBoard 17 (calcRow (bbsOf g) 64) ∧
    w'.rowIs gp tPos 8 (posF gb (casT (g 65)) (g 67) (g 68) ((c : Int) + 1) (g 66) (inCk (bbsOf g) (wkOf (bbsOf g) 64) (bkOf (bbsOf g) 64) ((c : Int) + 1))) ∧ Below w.heap.size w w'
set_option maxRecDepth 100000 in
theorem position_any (g : Nat → Int) (hV : VG g) (c : Nat) (hc1 : c ≤ 1) (hgc : g 64 = (c : Int)) (w : World) (hT : Tabs w) (hP : TabsP w) (hK : KTabs w) :
    Calls Tryd.prog 18 #[intRow 69 g] w fun e w' => LaidP g c w e w' := by
  have hr := rowIs_new w 24 69 (fun i => .int .i64 (g i))
  have hBw : Below w.heap.size w (w.alloc (.cells (rowArr 69 fun i => .int .i64 (g i)) 24)) := (Below.refl _ _).alloc (Nat.le_refl _) _
  unfold intRow
  go_enter Tryd.func18, Tryd.ntmps18
  go_upto_region 1 with (fail)
  generalize (w.alloc (.cells (rowArr 69 fun i => .int .i64 (g i)) 24)) = w1 at *
  have c64 : w1.cell? ⟨w.heap.size, 64, none⟩ = some (.int .i64 (c : Int)) := by rw [← hgc]; exact hr.cell (i := 64) (by omega)
  have c65 : w1.cell? ⟨w.heap.size, 65, none⟩ = some (.int .i64 (g 65)) := hr.cell (i := 65) (by omega)
  have c66 : w1.cell? ⟨w.heap.size, 66, none⟩ = some (.int .i64 (g 66)) := hr.cell (i := 66) (by omega)
  have c67 : w1.cell? ⟨w.heap.size, 67, none⟩ = some (.int .i64 (g 67)) := hr.cell (i := 67) (by omega)
  have c68 : w1.cell? ⟨w.heap.size, 68, none⟩ = some (.int .i64 (g 68)) := hr.cell (i := 68) (by omega)
  have hlt1 := hr.lt
  replace hV := Lib.hid hV
  replace hr := Lib.hid hr
  go_upto_if 9 with (fail)
  go_cut [3] from 7 to 9 (fun x wx => x = .int .i8 ((c : Int) + 1) ∧ wx = w1)
  case first =>
    (have hc : c = 0 ∨ c = 1 := (by omega)); rcases hc with rfl | rfl
    all_goals
      go_wp2_with (fail)
      go_meet
      exact ⟨rfl, rfl⟩
  case rest =>
    obtain ⟨rfl, hwc⟩ := hcut
    subst hwc
    have hcells : ∀ k, k < 4 → (wc.alloc (.cells #[.string { data := #[75] }, .string { data := #[81] }, .string { data := #[107] }, .string { data := #[113] }] 9)).cell? ⟨wc.heap.size, k, none⟩ = some (.string (letC k)) := by
      intro k hk
      (have : k = 0 ∨ k = 1 ∨ k = 2 ∨ k = 3 := (by omega))
      rcases this with rfl | rfl | rfl | rfl <;> simp [go_sem, letC]
    have hB2 : Below wc.heap.size wc (wc.alloc (.cells #[.string { data := #[75] }, .string { data := #[81] }, .string { data := #[107] }, .string { data := #[113] }] 9)) := (Below.refl _ _).alloc (Nat.le_refl _) _
    replace hcells := Lib.hid hcells
    go_upto_region 5 with (fail)
    generalize (wc.alloc (.cells #[.string { data := #[75] }, .string { data := #[81] }, .string { data := #[107] }, .string { data := #[113] }] 9)) = w2 at *
    have d64 := cell_below hB2 c64
    have d65 := cell_below hB2 c65
    have d66 := cell_below hB2 c66
    have d67 := cell_below hB2 c67
    have d68 := cell_below hB2 c68
    clear c64 c65 c66 c67 c68
    replace hB2 := Lib.hid hB2
    generalize hX : g 65 = X at *
    go_loopw [4, 12] (fun tx i wr => ∃ k : Nat, k ≤ 4 ∧ i = .int .i64 (k : Int) ∧ tx = .string (casB X k) ∧ wr = w2) (fun _ i _ => 4 - (intOf i).toNat)
    case atStart => exact ⟨0, by omega, rfl, rfl, rfl⟩
    case round =>
      obtain ⟨k, hk, rfl, rfl, hw⟩ := hrel
      subst hw
      by_cases hlt : k < 4
      · have hd : decide ((k : Int) < 4) = true := decide_eq_true (by omega)
        have hkl : (k : Int) < 4 := by omega
        have hck := hcells.out k hlt
        have hS := Lib.hid (show casB X (k + 1) = if bitG X k then casB X k ++ letC k else casB X k from rfl)
        have hsz : (9223372036854775807 < (casB X k).size + (letC k).size) = False := eq_false (not_big (by have h1 := casB_size X k; rw [letC_size]; omega))
        generalize casB X k = TX at *
        generalize letC k = LE at *
        cases hbit : (bits BinOp.and IntKind.i64 (X / 2 ^ k) 1 == 1)
        · go_wp2_with (fail)
          exact ⟨⟨k + 1, by omega, by go_num, by rw [hS.out, show bitG X k = false from hbit]; rfl, by trivial⟩, by simp [intOf]; omega⟩
        · go_wp2_with (fail)
          exact ⟨⟨k + 1, by omega, by go_num, by rw [hS.out, show bitG X k = true from hbit]; rfl, by trivial⟩, by simp [intOf]; omega⟩
      · obtain rfl : k = 4 := by omega
        rw [show ((4 : Nat) : Int) = 4 from rfl]
        have hT4 : casT X = if (casB X 4).toList.isEmpty then { data := #[45] } else casB X 4 := rfl
        generalize casB X 4 = TX at *
        go_upto_if 28 with (fail)
        go_cut [4] from 27 to 28 (fun x wx => x = .string (casT X) ∧ wx = wr)
        case first =>
          have hT4h := Lib.hid hT4
          clear hT4
          cases he : TX.toList.isEmpty
          · have e1 : casT X = TX := hT4h.out.trans (if_neg (by rw [he]; exact Bool.false_ne_true))
            replace e1 := Lib.hid e1
            go_wp2_with (fail)
            go_meet
            exact ⟨congrArg Value.string e1.out.symm, rfl⟩
          · have e1 : casT X = { data := #[45] } := hT4h.out.trans (if_pos he)
            replace e1 := Lib.hid e1
            go_wp2_with (fail)
            go_meet
            exact ⟨congrArg Value.string e1.out.symm, rfl⟩
        case rest =>
          obtain ⟨rfl, hwc⟩ := hcut
          subst hwc
          clear hT4
          have hVv := hV.out
          have hXr := hVv.castle
          rw [hX] at hXr
          have x1 : decide ((c : Int) < 0) = false := decide_eq_false (by omega)
          have x2 : decide (1 < (c : Int)) = false := decide_eq_false (by omega)
          have x3 : decide (X < 0) = false := decide_eq_false (by omega)
          have x4 : decide (15 < X) = false := decide_eq_false (by omega)
          have x5 : decide (g 66 < -1) = false := decide_eq_false (by have := hVv.ep; omega)
          have x6 : decide (63 < g 66) = false := decide_eq_false (by have := hVv.ep; omega)
          have x7 : decide (g 67 < 0) = false := decide_eq_false (by have := hVv.half; omega)
          have x8 : decide (g 68 < 0) = false := decide_eq_false (by have := hVv.full; omega)
          have y66 : -1000 ≤ g 66 ∧ g 66 ≤ 1000 := by have := hVv.ep; omega
          have e66 : IntKind.i8.wrap (g 66) = g 66 := IntWalk.i8_in _ (by have := hVv.ep; omega)
          clear hVv hXr
          go_upto_region 14 with (fail)
          have hBW := hBw.trans (hB2.out.mono hBw.size)
          have hrw := rowIs_below hr.out hB2.out hlt1
          have hltc := hrw.lt
          have hi64 : (Tryd.prog.info? 22).map (·.size) = some (rowArr 64 fun i => Value.int .i64 (g i)).toList.length := by rw [info64, Array.length_toList, rowArr_size]
          have k0 : Below wc.heap.size wc wc.drew := ⟨rfl, rfl, rfl, Nat.le_refl _, fun _ _ => rfl⟩
          have hSS : ∀ wz, Below wc.heap.size wc wz → Below wc.heap.size wc wz ∧ wz.rangeAt w.heap.size 0 (rowArr 64 fun i => .int .i64 (g i)).toList ∧ wz.cell? ⟨w.heap.size, 66, none⟩ = some (.int .i64 (g 66)) ∧ wz.cell? ⟨w.heap.size, 67, none⟩ = some (.int .i64 (g 67)) ∧ wz.cell? ⟨w.heap.size, 68, none⟩ = some (.int .i64 (g 68)) := fun wz h =>
            ⟨h, pos_range64 (rowIs_below hrw h hltc), by rw [h.cell hltc]; exact d66, by rw [h.cell hltc]; exact d67, by rw [h.cell hltc]; exact d68⟩
          have hTc := hT.below hBW
          have hPc := hP.below hBW
          have hKc := hK.below hBW
          have hBd := fun (wz : World) (hz : Below wc.heap.size wc wz) => board_any g hV.out.board wz (hPc.below hz)
          have hwk := lastOf_range (fun s => occ (bbsOf g 0).toNat s) 64
          have hbk := lastOf_range (fun s => !occ (bbsOf g 0).toNat s && occ (bbsOf g 6).toNat s) 64
          have hDp := fun (wz : World) (hz : Below wc.heap.size wc wz) (gb : Nat) (hb : wz.rowIs gb tBoard 17 (calcRow (bbsOf g) 64)) => doorPosition_any gb (bbsOf g) (wkOf (bbsOf g) 64) (bkOf (bbsOf g) 64) ((c : Int) + 1) (g 66) (g 67) (g 68) (casT X) (by omega) ⟨hwk.1, hwk.2⟩ ⟨hbk.1, hbk.2⟩ wz (hTc.below hz) (hPc.below hz) (hKc.below hz) hb
          unfold intRow at hBd
          replace hSS := Lib.hid hSS
          replace hBd := Lib.hid hBd
          replace hDp := Lib.hid hDp
          replace k0 := Lib.hid k0
          replace hBW := Lib.hid hBW
          clear hwk hbk hTc hPc hKc hrw d64 d65 d66 d67 d68 x1 x2 x3 x4 x5 x6 x7 x8 hT hP hK hBw
          refine wp_region_held_drew (S := fun v => Below wc.heap.size wc v ∧ v.rangeAt w.heap.size 0 (rowArr 64 fun i => .int .i64 (g i)).toList ∧ v.cell? ⟨w.heap.size, 66, none⟩ = some (.int .i64 (g 66)) ∧ v.cell? ⟨w.heap.size, 67, none⟩ = some (.int .i64 (g 67)) ∧ v.cell? ⟨w.heap.size, 68, none⟩ = some (.int .i64 (g 68))) (by kernel_rfl) ?_ (fun hHeld => ?_)
          · exact hSS.out _ k0.out
          (refine wpAnyH_take (i := 0) (v := ?_) rfl (by kernel_rfl) (by kernel_rfl) (by kernel_rfl) (fun _ _ _ h => h) (Or.inl ⟨by rfl, ?_⟩) (by assumption) ?_; rotate_left; · (intro w hSw; go_simp; try with_reducible rfl)); try simp only [List.getElem_toArray, List.getElem_cons_succ, List.getElem_cons_zero, Act.put, List.setIfInBounds_toArray, List.set_cons_zero, List.set_cons_succ]
          refine wpAnyH_take (i := 1) rfl (by kernel_rfl) (by kernel_rfl) (by kernel_rfl) (fun _ _ _ h => h) (yieldsIf_load_mid (by rfl) _ _ rfl _ _ rfl _ _ (fun w h => h.2.1) Tryd.underlying22 rfl hi64) (by assumption) ?_; try simp only [List.getElem_toArray, List.getElem_cons_succ, List.getElem_cons_zero, Act.put, List.setIfInBounds_toArray, List.set_cons_zero, List.set_cons_succ]
          (refine wpAnyH_take (i := 3) (v := ?_) rfl (by kernel_rfl) (by kernel_rfl) (by kernel_rfl) (fun _ _ _ h => h) (Or.inl ⟨by rfl, ?_⟩) (by assumption) ?_; rotate_left; · (intro w hSw; go_simp; try with_reducible rfl)); try simp only [List.getElem_toArray, List.getElem_cons_succ, List.getElem_cons_zero, Act.put, List.setIfInBounds_toArray, List.set_cons_zero, List.set_cons_succ]
          (refine wpAnyH_take (i := 4) (v := ?_) rfl (by kernel_rfl) (by kernel_rfl) (by kernel_rfl) (fun _ _ _ h => h) (Or.inl ⟨by rfl, ?_⟩) (by assumption) ?_; rotate_left; · (intro w hSw; go_simp; try with_reducible rfl)); try simp only [List.getElem_toArray, List.getElem_cons_succ, List.getElem_cons_zero, Act.put, List.setIfInBounds_toArray, List.set_cons_zero, List.set_cons_succ]
          (refine wpAnyH_take (i := 5) (v := ?_) rfl (by kernel_rfl) (by kernel_rfl) (by kernel_rfl) (fun _ _ _ h => h) (Or.inl ⟨by rfl, ?_⟩) (by assumption) ?_; rotate_left; · (intro w hSw; go_simp; try with_reducible rfl)); try simp only [List.getElem_toArray, List.getElem_cons_succ, List.getElem_cons_zero, Act.put, List.setIfInBounds_toArray, List.set_cons_zero, List.set_cons_succ]
          (refine wpAnyH_take (i := 6) (v := ?_) rfl (by kernel_rfl) (by kernel_rfl) (by kernel_rfl) (fun _ _ _ h => h) (Or.inl ⟨by rfl, ?_⟩) (by assumption) ?_; rotate_left; · (intro w hSw; go_simp; try with_reducible rfl)); try simp only [List.getElem_toArray, List.getElem_cons_succ, List.getElem_cons_zero, Act.put, List.setIfInBounds_toArray, List.set_cons_zero, List.set_cons_succ]
          (refine wpAnyH_take (i := 7) (v := ?_) rfl (by kernel_rfl) (by kernel_rfl) (by kernel_rfl) (fun _ _ _ h => h) (Or.inl ⟨by rfl, ?_⟩) (by assumption) ?_; rotate_left; · (intro w hSw; go_simp; try with_reducible rfl)); try simp only [List.getElem_toArray, List.getElem_cons_succ, List.getElem_cons_zero, Act.put, List.setIfInBounds_toArray, List.set_cons_zero, List.set_cons_succ]
          (refine wpAnyH_take (i := 8) (v := ?_) rfl (by kernel_rfl) (by kernel_rfl) (by kernel_rfl) (fun _ _ _ h => h) (Or.inl ⟨by rfl, ?_⟩) (by assumption) ?_; rotate_left; · (intro w hSw; go_simp; try with_reducible rfl)); try simp only [List.getElem_toArray, List.getElem_cons_succ, List.getElem_cons_zero, Act.put, List.setIfInBounds_toArray, List.set_cons_zero, List.set_cons_succ]
          (refine wpAnyH_take (i := 9) (v := ?_) rfl (by kernel_rfl) (by kernel_rfl) (by kernel_rfl) (fun _ _ _ h => h) (Or.inl ⟨by rfl, ?_⟩) (by assumption) ?_; rotate_left; · (intro w hSw; go_simp; try with_reducible rfl)); try simp only [List.getElem_toArray, List.getElem_cons_succ, List.getElem_cons_zero, Act.put, List.setIfInBounds_toArray, List.set_cons_zero, List.set_cons_succ]
          (refine wpAnyH_take (i := 10) (v := ?_) rfl (by kernel_rfl) (by kernel_rfl) (by kernel_rfl) (fun _ _ _ h => h) (Or.inl ⟨by rfl, ?_⟩) (by assumption) ?_; rotate_left; · (intro w hSw; go_simp; try with_reducible rfl)); try simp only [List.getElem_toArray, List.getElem_cons_succ, List.getElem_cons_zero, Act.put, List.setIfInBounds_toArray, List.set_cons_zero, List.set_cons_succ]
          (refine wpAnyH_take (i := 11) (v := ?_) rfl (by kernel_rfl) (by kernel_rfl) (by kernel_rfl) (fun _ _ _ h => h) (Or.inl ⟨by rfl, ?_⟩) (by assumption) ?_; rotate_left; · (intro w hSw; go_simp; try with_reducible rfl)); try simp only [List.getElem_toArray, List.getElem_cons_succ, List.getElem_cons_zero, Act.put, List.setIfInBounds_toArray, List.set_cons_zero, List.set_cons_succ]
          refine wpAnyH_ready (rs := [2]) (by kernel_rfl) (by simp) ?_; refine AllReadyH.cons rfl (fun K hK => ?_) AllReadyH.nil; go_simp
          refine (hBd.out _ hHeld.1).mono ?_
          rintro e w5 ⟨gb, rfl, hgb, hrb, hb5⟩
          have hHo := hHeld
          refine hK.out _ _ (hSS.out _ (hHeld.1.trans (hb5.mono hHeld.1.size))) (fun hHeld => ?_); clear hK K; try simp only [List.getElem_toArray, List.getElem_cons_succ, List.getElem_cons_zero, Act.put, List.setIfInBounds_toArray, List.set_cons_zero, List.set_cons_succ]
          refine wpAnyH_ready (rs := [12]) (by kernel_rfl) (by simp) ?_; refine AllReadyH.cons rfl (fun K hK => ?_) AllReadyH.nil; go_simp
          refine (hDp.out _ hHeld.1 gb hrb).mono ?_
          rintro e w6 ⟨gp, rfl, hgp, hrp, hb6⟩
          have hH5 := hHeld
          refine hK.out _ _ (hSS.out _ (hHeld.1.trans (hb6.mono hHeld.1.size))) (fun hHeld => ?_); clear hK K; try simp only [List.getElem_toArray, List.getElem_cons_succ, List.getElem_cons_zero, Act.put, List.setIfInBounds_toArray, List.set_cons_zero, List.set_cons_succ]
          (refine wpAnyH_take (i := 13) (v := ?_) rfl (by kernel_rfl) (by kernel_rfl) (by kernel_rfl) (fun _ _ _ h => h) (Or.inl ⟨by rfl, ?_⟩) (by assumption) ?_; rotate_left; · (intro w hSw; go_simp; try with_reducible rfl)); try simp only [List.getElem_toArray, List.getElem_cons_succ, List.getElem_cons_zero, Act.put, List.setIfInBounds_toArray, List.set_cons_zero, List.set_cons_succ]
          refine wpAnyH_done (by kernel_rfl) ?_ _
          have hrb6 := rowIs_below hrb hb6 hrb.lt
          have z1 := hBW.out.size
          have z2 := hHo.1.size
          have z3 := hH5.1.size
          have hfin := Lib.hid (show ∃ gb', w.heap.size ≤ gp ∧ w.heap.size ≤ gb' ∧ w6.rowIs gb' tBoard 17 (calcRow (bbsOf g) 64) ∧ w6.rowIs gp tPos 8 (posF gb' (casT X) (g 67) (g 68) ((c : Int) + 1) (g 66) (inCk (bbsOf g) (wkOf (bbsOf g) 64) (bkOf (bbsOf g) 64) ((c : Int) + 1))) ∧ Below w.heap.size w w6 from ⟨gb, by omega, by omega, hrb6, hrp, hBW.out.trans (hHeld.1.mono hBW.out.size)⟩)
          clear hrb6 hrb hrp hb5 hb6 hHo hH5 hHeld hSS hBd hDp z1 z2 z3
          go_wp2_with (fail)
          go_ret
          obtain ⟨gb', q1, q2, q3, q4, q5⟩ := hfin.out
          exact ⟨gp, gb', rfl, q1, q2, q3, by rw [hX]; exact q4, q5⟩
end Go.Proofs.YthdbgjhonnogpaaDoor

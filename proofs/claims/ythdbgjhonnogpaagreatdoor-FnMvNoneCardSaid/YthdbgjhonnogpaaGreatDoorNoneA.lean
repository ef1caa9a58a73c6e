/- No move: the board's copy, and the position behind no move. -/
import Derived.Test.YthdbgjhonnogpaaGreatDoorTurn
import Derived.StillTailTactics
namespace Go.Proofs.YthdbgjhonnogpaaGreatDoor
open Go.ChangeShapes Go.WideShapes Go.ChangeAt Go.RowKit Plain
set_option maxHeartbeats 1000000
set_option linter.unusedVariables false
set_option linter.unusedSimpArgs false

set_option maxRecDepth 100000 in
theorem copy_any (gb : Nat) (bb : Nat → BitVec 64) (wk bk : Int) (w : World) (h : w.rowIs gb tBoard 17 (cellB bb wk bk)) :
    Calls Tryz.prog 38 #[.pointer (some ⟨gb, 0, none⟩)] w fun e w' => ∃ g2, e = .returned (.pointer (some ⟨g2, 0, none⟩)) ∧ w.heap.size ≤ g2 ∧ w'.rowIs g2 tBoard 17 (cellB bb wk bk) ∧ Below w.heap.size w w' := by
  have c0 : w.cell? ⟨gb, 0, none⟩ = some (.int .u64 (tn (bb 0))) := h.cell (i := 0) (by omega)
  have c1 : w.cell? ⟨gb, 1, none⟩ = some (.int .u64 (tn (bb 1))) := h.cell (i := 1) (by omega)
  have c2 : w.cell? ⟨gb, 2, none⟩ = some (.int .u64 (tn (bb 2))) := h.cell (i := 2) (by omega)
  have c3 : w.cell? ⟨gb, 3, none⟩ = some (.int .u64 (tn (bb 3))) := h.cell (i := 3) (by omega)
  have c4 : w.cell? ⟨gb, 4, none⟩ = some (.int .u64 (tn (bb 4))) := h.cell (i := 4) (by omega)
  have c5 : w.cell? ⟨gb, 5, none⟩ = some (.int .u64 (tn (bb 5))) := h.cell (i := 5) (by omega)
  have c6 : w.cell? ⟨gb, 6, none⟩ = some (.int .u64 (tn (bb 6))) := h.cell (i := 6) (by omega)
  have c7 : w.cell? ⟨gb, 7, none⟩ = some (.int .u64 (tn (bb 7))) := h.cell (i := 7) (by omega)
  have c8 : w.cell? ⟨gb, 8, none⟩ = some (.int .u64 (tn (bb 8))) := h.cell (i := 8) (by omega)
  have c9 : w.cell? ⟨gb, 9, none⟩ = some (.int .u64 (tn (bb 9))) := h.cell (i := 9) (by omega)
  have c10 : w.cell? ⟨gb, 10, none⟩ = some (.int .u64 (tn (bb 10))) := h.cell (i := 10) (by omega)
  have c11 : w.cell? ⟨gb, 11, none⟩ = some (.int .u64 (tn (bb 11))) := h.cell (i := 11) (by omega)
  have c12 : w.cell? ⟨gb, 12, none⟩ = some (.int .u64 (tn (bb 12))) := h.cell (i := 12) (by omega)
  have c13 : w.cell? ⟨gb, 13, none⟩ = some (.int .u64 (tn (bb 13))) := h.cell (i := 13) (by omega)
  have c14 : w.cell? ⟨gb, 14, none⟩ = some (.int .u64 (tn (bb 14))) := h.cell (i := 14) (by omega)
  have c15 : w.cell? ⟨gb, 15, none⟩ = some (.int .i8 wk) := h.cell (i := 15) (by omega)
  have c16 : w.cell? ⟨gb, 16, none⟩ = some (.int .i8 bk) := h.cell (i := 16) (by omega)
  have hn := Lib.hid (World.rowIs_alloc w #[.int .u64 (tn (bb 0)), .int .u64 (tn (bb 1)), .int .u64 (tn (bb 2)), .int .u64 (tn (bb 3)), .int .u64 (tn (bb 4)), .int .u64 (tn (bb 5)), .int .u64 (tn (bb 6)), .int .u64 (tn (bb 7)), .int .u64 (tn (bb 8)), .int .u64 (tn (bb 9)), .int .u64 (tn (bb 10)), .int .u64 (tn (bb 11)), .int .u64 (tn (bb 12)), .int .u64 (tn (bb 13)), .int .u64 (tn (bb 14)), .int .i8 wk, .int .i8 bk] tBoard (cellB bb wk bk) (fun j hj => by
    (have hj : j < 17 := hj)
    (have : j = 0 ∨ j = 1 ∨ j = 2 ∨ j = 3 ∨ j = 4 ∨ j = 5 ∨ j = 6 ∨ j = 7 ∨ j = 8 ∨ j = 9 ∨ j = 10 ∨ j = 11 ∨ j = 12 ∨ j = 13 ∨ j = 14 ∨ j = 15 ∨ j = 16 := (by omega))
    rcases this with rfl | rfl | rfl | rfl | rfl | rfl | rfl | rfl | rfl | rfl | rfl | rfl | rfl | rfl | rfl | rfl | rfl <;> rfl))
  have hB := Lib.hid ((Below.refl w.heap.size w).alloc (Nat.le_refl _) (.cells #[.int .u64 (tn (bb 0)), .int .u64 (tn (bb 1)), .int .u64 (tn (bb 2)), .int .u64 (tn (bb 3)), .int .u64 (tn (bb 4)), .int .u64 (tn (bb 5)), .int .u64 (tn (bb 6)), .int .u64 (tn (bb 7)), .int .u64 (tn (bb 8)), .int .u64 (tn (bb 9)), .int .u64 (tn (bb 10)), .int .u64 (tn (bb 11)), .int .u64 (tn (bb 12)), .int .u64 (tn (bb 13)), .int .u64 (tn (bb 14)), .int .i8 wk, .int .i8 bk] tBoard))
  clear h
  go_enter Tryz.func38, Tryz.ntmps38
  go_wp2_with (fail)
  simp only [List.append_eq, List.cons_append, List.nil_append]
  go_still_tail 69, (by kernel_rfl)
  change wpList _ _ _ _ _ w.drew
  go_wp2_with (fail)
  go_ret
  exact ⟨w.heap.size, rfl, Nat.le_refl _, hn.out.of_block rfl, hB.out.drew⟩
set_option maxRecDepth 100000 in
theorem updateNil_any (gp gb : Nat) (bb : Nat → BitVec 64) (wk bk : Int) (txt : ByteArray) (half full t ep : Int) (ck : Bool) (ht : t = 1 ∨ t = 2) (hh : 0 ≤ half ∧ half ≤ 100000) (hf : 0 ≤ full ∧ full ≤ 100000) (w : World)
    (hb : w.rowIs gb tBoard 17 (cellB bb wk bk)) (hp : w.rowIs gp tPos 8 (posF gb txt half full t ep ck)) :
    Calls Tryz.prog 17 #[.pointer (some ⟨gp, 0, none⟩), .pointer none] w fun e w' => ∃ g2 gb2, e = .returned (.pointer (some ⟨g2, 0, none⟩)) ∧ w'.rowIs gb2 tBoard 17 (cellB bb wk bk) ∧ w'.rowIs g2 tPos 8 (posF gb2 txt (half + 1) (full + (t - 1)) (3 - t) (-1) false) ∧ Below w.heap.size w w' := by
  have c0 : w.cell? ⟨gp, 0, none⟩ = some (.pointer (some ⟨gb, 0, none⟩)) := hp.cell (i := 0) (by omega)
  have c1 : w.cell? ⟨gp, 1, none⟩ = some (.string txt) := hp.cell (i := 1) (by omega)
  have c3 : w.cell? ⟨gp, 3, none⟩ = some (.int .i64 half) := hp.cell (i := 3) (by omega)
  have c4 : w.cell? ⟨gp, 4, none⟩ = some (.int .i64 full) := hp.cell (i := 4) (by omega)
  have c5 : w.cell? ⟨gp, 5, none⟩ = some (.int .i8 t) := hp.cell (i := 5) (by omega)
  have hlt := hp.lt
  have hcp := Lib.hid (fun wx (h : Below w.heap.size w wx) => copy_any gb bb wk bk wx (rowIs_below hb h hb.lt))
  have hot := Lib.hid (fun wx => other_any t ht wx)
  have e1 : IntKind.i64.wrap (half + 1) = half + 1 := IntWalk.i64_in _ (by omega)
  have hFb : -1000000 ≤ full + 1 ∧ full + 1 ≤ 1000000 := by omega
  go_enter Tryz.func17, Tryz.ntmps17
  go_upto_if 18 with (fail)
  go_cut [5] from 10 to 20 (fun x wx => x = .int .i64 (full + (t - 1)) ∧ wx = w)
  case first =>
    rcases ht with rfl | rfl
    · go_wp2_with (fail)
      go_meet
      exact ⟨by simp, rfl⟩
    · go_wp2_with (fail)
      go_meet
      exact ⟨rfl, rfl⟩
  case rest =>
    obtain ⟨rfl, hwc⟩ := hcut
    subst hwc
    generalize hF : full + (t - 1) = FU at *
    replace hF := Lib.hid hF
    go_upto_region 5 with (fail)
    have k0 : Below wc.heap.size wc wc.drew := ⟨rfl, rfl, rfl, Nat.le_refl _, fun _ _ => rfl⟩
    have hSS : ∀ wz, Below wc.heap.size wc wz → Below wc.heap.size wc wz ∧ wz.cell? ⟨gp, 0, none⟩ = some (.pointer (some ⟨gb, 0, none⟩)) ∧ wz.cell? ⟨gp, 1, none⟩ = some (.string txt) ∧ wz.cell? ⟨gp, 3, none⟩ = some (.int .i64 half) ∧ wz.cell? ⟨gp, 5, none⟩ = some (.int .i8 t) := fun wz h =>
      ⟨h, by rw [h.cell hlt]; exact c0, by rw [h.cell hlt]; exact c1, by rw [h.cell hlt]; exact c3, by rw [h.cell hlt]; exact c5⟩
    replace hSS := Lib.hid hSS
    replace k0 := Lib.hid k0
    clear c0 c1 c3 c4 c5 hb hp
    refine wp_region_held_drew (S := fun v => Below wc.heap.size wc v ∧ v.cell? ⟨gp, 0, none⟩ = some (.pointer (some ⟨gb, 0, none⟩)) ∧ v.cell? ⟨gp, 1, none⟩ = some (.string txt) ∧ v.cell? ⟨gp, 3, none⟩ = some (.int .i64 half) ∧ v.cell? ⟨gp, 5, none⟩ = some (.int .i8 t)) (by kernel_rfl) ?_ (fun hHeld => ?_)
    · exact hSS.out _ k0.out
    (refine wpAnyH_take (i := 0) (v := ?_) rfl (by kernel_rfl) (by kernel_rfl) (by kernel_rfl) (fun _ _ _ h => h) (Or.inl ⟨by rfl, ?_⟩) (by assumption) ?_; rotate_left; · (intro w hSw; go_simp; try with_reducible rfl)); try simp only [List.getElem_toArray, List.getElem_cons_succ, List.getElem_cons_zero, Act.put, List.setIfInBounds_toArray, List.set_cons_zero, List.set_cons_succ]
    (refine wpAnyH_take (i := 1) (v := ?_) rfl (by kernel_rfl) (by kernel_rfl) (by kernel_rfl) (fun _ _ _ h => h) (Or.inl ⟨by rfl, ?_⟩) (by assumption) ?_; rotate_left; · (intro w hSw; go_simp; try with_reducible rfl)); try simp only [List.getElem_toArray, List.getElem_cons_succ, List.getElem_cons_zero, Act.put, List.setIfInBounds_toArray, List.set_cons_zero, List.set_cons_succ]
    (refine wpAnyH_take (i := 2) (v := ?_) rfl (by kernel_rfl) (by kernel_rfl) (by kernel_rfl) (fun _ _ _ h => h) (Or.inl ⟨by rfl, ?_⟩) (by assumption) ?_; rotate_left; · (intro w hSw; go_simp; try with_reducible rfl)); try simp only [List.getElem_toArray, List.getElem_cons_succ, List.getElem_cons_zero, Act.put, List.setIfInBounds_toArray, List.set_cons_zero, List.set_cons_succ]
    (refine wpAnyH_take (i := 3) (v := ?_) rfl (by kernel_rfl) (by kernel_rfl) (by kernel_rfl) (fun _ _ _ h => h) (Or.inl ⟨by rfl, ?_⟩) (by assumption) ?_; rotate_left; · (intro w hSw; go_simp; try with_reducible rfl)); try simp only [List.getElem_toArray, List.getElem_cons_succ, List.getElem_cons_zero, Act.put, List.setIfInBounds_toArray, List.set_cons_zero, List.set_cons_succ]
    (refine wpAnyH_take (i := 5) (v := ?_) rfl (by kernel_rfl) (by kernel_rfl) (by kernel_rfl) (fun _ _ _ h => h) (Or.inl ⟨by rfl, ?_⟩) (by assumption) ?_; rotate_left; · (intro w hSw; go_simp; try with_reducible rfl)); try simp only [List.getElem_toArray, List.getElem_cons_succ, List.getElem_cons_zero, Act.put, List.setIfInBounds_toArray, List.set_cons_zero, List.set_cons_succ]
    (refine wpAnyH_take (i := 6) (v := ?_) rfl (by kernel_rfl) (by kernel_rfl) (by kernel_rfl) (fun _ _ _ h => h) (Or.inl ⟨by rfl, ?_⟩) (by assumption) ?_; rotate_left; · (intro w hSw; go_simp; try with_reducible rfl)); try simp only [List.getElem_toArray, List.getElem_cons_succ, List.getElem_cons_zero, Act.put, List.setIfInBounds_toArray, List.set_cons_zero, List.set_cons_succ]
    (refine wpAnyH_take (i := 7) (v := ?_) rfl (by kernel_rfl) (by kernel_rfl) (by kernel_rfl) (fun _ _ _ h => h) (Or.inl ⟨by rfl, ?_⟩) (by assumption) ?_; rotate_left; · (intro w hSw; go_simp; try with_reducible rfl)); try simp only [List.getElem_toArray, List.getElem_cons_succ, List.getElem_cons_zero, Act.put, List.setIfInBounds_toArray, List.set_cons_zero, List.set_cons_succ]
    (refine wpAnyH_take (i := 8) (v := ?_) rfl (by kernel_rfl) (by kernel_rfl) (by kernel_rfl) (fun _ _ _ h => h) (Or.inl ⟨by rfl, ?_⟩) (by assumption) ?_; rotate_left; · (intro w hSw; go_simp; try with_reducible rfl)); try simp only [List.getElem_toArray, List.getElem_cons_succ, List.getElem_cons_zero, Act.put, List.setIfInBounds_toArray, List.set_cons_zero, List.set_cons_succ]
    (refine wpAnyH_take (i := 10) (v := ?_) rfl (by kernel_rfl) (by kernel_rfl) (by kernel_rfl) (fun _ _ _ h => h) (Or.inl ⟨by rfl, ?_⟩) (by assumption) ?_; rotate_left; · (intro w hSw; go_simp; try with_reducible rfl)); try simp only [List.getElem_toArray, List.getElem_cons_succ, List.getElem_cons_zero, Act.put, List.setIfInBounds_toArray, List.set_cons_zero, List.set_cons_succ]
    (refine wpAnyH_take (i := 11) (v := ?_) rfl (by kernel_rfl) (by kernel_rfl) (by kernel_rfl) (fun _ _ _ h => h) (Or.inl ⟨by rfl, ?_⟩) (by assumption) ?_; rotate_left; · (intro w hSw; go_simp; try with_reducible rfl)); try simp only [List.getElem_toArray, List.getElem_cons_succ, List.getElem_cons_zero, Act.put, List.setIfInBounds_toArray, List.set_cons_zero, List.set_cons_succ]
    (refine wpAnyH_take (i := 12) (v := ?_) rfl (by kernel_rfl) (by kernel_rfl) (by kernel_rfl) (fun _ _ _ h => h) (Or.inl ⟨by rfl, ?_⟩) (by assumption) ?_; rotate_left; · (intro w hSw; go_simp; try with_reducible rfl)); try simp only [List.getElem_toArray, List.getElem_cons_succ, List.getElem_cons_zero, Act.put, List.setIfInBounds_toArray, List.set_cons_zero, List.set_cons_succ]
    (refine wpAnyH_take (i := 13) (v := ?_) rfl (by kernel_rfl) (by kernel_rfl) (by kernel_rfl) (fun _ _ _ h => h) (Or.inl ⟨by rfl, ?_⟩) (by assumption) ?_; rotate_left; · (intro w hSw; go_simp; try with_reducible rfl)); try simp only [List.getElem_toArray, List.getElem_cons_succ, List.getElem_cons_zero, Act.put, List.setIfInBounds_toArray, List.set_cons_zero, List.set_cons_succ]
    (refine wpAnyH_take (i := 14) (v := ?_) rfl (by kernel_rfl) (by kernel_rfl) (by kernel_rfl) (fun _ _ _ h => h) (Or.inl ⟨by rfl, ?_⟩) (by assumption) ?_; rotate_left; · (intro w hSw; go_simp; try with_reducible rfl)); try simp only [List.getElem_toArray, List.getElem_cons_succ, List.getElem_cons_zero, Act.put, List.setIfInBounds_toArray, List.set_cons_zero, List.set_cons_succ]
    (refine wpAnyH_take (i := 15) (v := ?_) rfl (by kernel_rfl) (by kernel_rfl) (by kernel_rfl) (fun _ _ _ h => h) (Or.inl ⟨by rfl, ?_⟩) (by assumption) ?_; rotate_left; · (intro w hSw; go_simp; try with_reducible rfl)); try simp only [List.getElem_toArray, List.getElem_cons_succ, List.getElem_cons_zero, Act.put, List.setIfInBounds_toArray, List.set_cons_zero, List.set_cons_succ]
    (refine wpAnyH_take (i := 16) (v := ?_) rfl (by kernel_rfl) (by kernel_rfl) (by kernel_rfl) (fun _ _ _ h => h) (Or.inl ⟨by rfl, ?_⟩) (by assumption) ?_; rotate_left; · (intro w hSw; go_simp; try with_reducible rfl)); try simp only [List.getElem_toArray, List.getElem_cons_succ, List.getElem_cons_zero, Act.put, List.setIfInBounds_toArray, List.set_cons_zero, List.set_cons_succ]
    (refine wpAnyH_take (i := 17) (v := ?_) rfl (by kernel_rfl) (by kernel_rfl) (by kernel_rfl) (fun _ _ _ h => h) (Or.inl ⟨by rfl, ?_⟩) (by assumption) ?_; rotate_left; · (intro w hSw; go_simp; try with_reducible rfl)); try simp only [List.getElem_toArray, List.getElem_cons_succ, List.getElem_cons_zero, Act.put, List.setIfInBounds_toArray, List.set_cons_zero, List.set_cons_succ]
    (refine wpAnyH_take (i := 18) (v := ?_) rfl (by kernel_rfl) (by kernel_rfl) (by kernel_rfl) (fun _ _ _ h => h) (Or.inl ⟨by rfl, ?_⟩) (by assumption) ?_; rotate_left; · (intro w hSw; go_simp; try with_reducible rfl)); try simp only [List.getElem_toArray, List.getElem_cons_succ, List.getElem_cons_zero, Act.put, List.setIfInBounds_toArray, List.set_cons_zero, List.set_cons_succ]
    (refine wpAnyH_take (i := 19) (v := ?_) rfl (by kernel_rfl) (by kernel_rfl) (by kernel_rfl) (fun _ _ _ h => h) (Or.inl ⟨by rfl, ?_⟩) (by assumption) ?_; rotate_left; · (intro w hSw; go_simp; try with_reducible rfl)); try simp only [List.getElem_toArray, List.getElem_cons_succ, List.getElem_cons_zero, Act.put, List.setIfInBounds_toArray, List.set_cons_zero, List.set_cons_succ]
    refine wpAnyH_ready (rs := [4]) (by kernel_rfl) (by simp) ?_; refine AllReadyH.cons rfl (fun K hK => ?_) AllReadyH.nil; go_simp
    refine (hcp.out _ hHeld.1).mono ?_
    rintro e w5 ⟨gb2, rfl, hgb2, hrb2, hb5⟩
    refine hK.out _ _ (hSS.out _ (hHeld.1.trans (hb5.mono hHeld.1.size))) (fun hHeld => ?_); clear hK K; try simp only [List.getElem_toArray, List.getElem_cons_succ, List.getElem_cons_zero, Act.put, List.setIfInBounds_toArray, List.set_cons_zero, List.set_cons_succ]
    refine wpAnyH_ready (rs := [9]) (by kernel_rfl) (by simp) ?_; refine AllReadyH.cons rfl (fun K hK => ?_) AllReadyH.nil; go_simp
    refine (hot.out _).mono ?_
    rintro e w6 ⟨rfl, rfl⟩
    refine hK.out _ _ (hSS.out _ hHeld.1) (fun hHeld => ?_); clear hK K; try simp only [List.getElem_toArray, List.getElem_cons_succ, List.getElem_cons_zero, Act.put, List.setIfInBounds_toArray, List.set_cons_zero, List.set_cons_succ]
    (refine wpAnyH_take (i := 20) (v := ?_) rfl (by kernel_rfl) (by kernel_rfl) (by kernel_rfl) (fun _ _ _ h => h) (Or.inl ⟨by rfl, ?_⟩) (by assumption) ?_; rotate_left; · (intro w hSw; go_simp; try with_reducible rfl)); try simp only [List.getElem_toArray, List.getElem_cons_succ, List.getElem_cons_zero, Act.put, List.setIfInBounds_toArray, List.set_cons_zero, List.set_cons_succ]
    refine wpAnyH_ready (rs := [21]) (by kernel_rfl) (by simp) ?_; refine AllReadyH.cons rfl (fun K hK => ?_) AllReadyH.nil; go_simp
    have hb9 : Below wc.heap.size wc (w5.alloc (.cells #[.pointer (some ⟨gb2, 0, none⟩), .string txt, .slice none 0 0, .int .i64 (half + 1), .int .i64 FU, .int .i8 (3 - t), .int .i8 (-1), .bool false] tPos)) := hHeld.1.alloc hHeld.1.size _
    have hn9 := Lib.hid (World.rowIs_alloc w5 #[.pointer (some ⟨gb2, 0, none⟩), .string txt, .slice none 0 0, .int .i64 (half + 1), .int .i64 FU, .int .i8 (3 - t), .int .i8 (-1), .bool false] tPos (posF gb2 txt (half + 1) FU (3 - t) (-1) false) (fun j hj => by
      (have hj : j < 8 := hj)
      (have : j = 0 ∨ j = 1 ∨ j = 2 ∨ j = 3 ∨ j = 4 ∨ j = 5 ∨ j = 6 ∨ j = 7 := (by omega))
      rcases this with rfl | rfl | rfl | rfl | rfl | rfl | rfl | rfl <;> rfl))
    have hr9 := Lib.hid (hrb2.alloc (.cells #[.pointer (some ⟨gb2, 0, none⟩), .string txt, .slice none 0 0, .int .i64 (half + 1), .int .i64 FU, .int .i8 (3 - t), .int .i8 (-1), .bool false] tPos))
    refine hK.out _ _ (hSS.out _ hb9) (fun hHeld => ?_); clear hK K; try simp only [List.getElem_toArray, List.getElem_cons_succ, List.getElem_cons_zero, Act.put, List.setIfInBounds_toArray, List.set_cons_zero, List.set_cons_succ]
    (refine wpAnyH_take (i := 22) (v := ?_) rfl (by kernel_rfl) (by kernel_rfl) (by kernel_rfl) (fun _ _ _ h => h) (Or.inl ⟨by rfl, ?_⟩) (by assumption) ?_; rotate_left; · (intro w hSw; go_simp; try with_reducible rfl)); try simp only [List.getElem_toArray, List.getElem_cons_succ, List.getElem_cons_zero, Act.put, List.setIfInBounds_toArray, List.set_cons_zero, List.set_cons_succ]
    refine wpAnyH_done (by kernel_rfl) ?_ _
    replace hb9 := Lib.hid hb9
    clear hHeld hrb2 hb5 hSS
    go_wp2_with (fail)
    go_ret
    rw [hF.out]
    exact ⟨_, gb2, rfl, hr9.out, hn9.out, hb9.out⟩
end Go.Proofs.YthdbgjhonnogpaaGreatDoor

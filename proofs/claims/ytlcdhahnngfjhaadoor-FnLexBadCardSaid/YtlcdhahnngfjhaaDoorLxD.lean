/- The lexer: a square. -/
import Derived.Test.YtlcdhahnngfjhaaDoorLxC
namespace Go.Proofs.YtlcdhahnngfjhaaDoor
open Go.ChangeShapes Go.WideShapes Go.ChangeAt Go.RowKit Go.PlainAid
set_option maxHeartbeats 2000000
set_option linter.unusedVariables false
set_option linter.unusedSimpArgs false
attribute [local go_sem] tx_list tx_size bt_tx

set_option maxRecDepth 100000 in
theorem readSquare_any (gl : Nat) (L : List UInt8) (p : Nat) (f : Fl) (hL : L.length ≤ 1000000) (hA : chAt L p < 128) (h1 : isFl (chAt L p) = true) (h2 : isD (chAt L (p + 1)) = true) (h3 : isFl (chAt L (p + 2)) = false) (h4 : isD (chAt L (p + 2)) = false) (w : World) (h : LexAt gl L p f w) :
    Calls Tryd.prog 38 #[.pointer (some ⟨gl, 0, none⟩)] w fun e w' => TokP gl L ⟨false, mid L p (p + 2), 10⟩ (p + 2) f w e w' := by
  have hp0 := in_text (t := isFl) rfl h1
  have hp1 := in_text (t := isD) rfl h2
  obtain ⟨k1, hx1, hr1⟩ := tok_laid h
  have hgl : w.heap.size ≠ gl := by have := World.rowIs.lt h; omega
  have c1 := k1.cells.2.1
  have c3 := k1.cells.2.2.2.1
  have hu := enc_ch L p hA
  have hC0 : ((chAt L p : Nat) : Int) ≠ 0 := by
    intro e
    have : chAt L p = 0 := by omega
    rw [this] at h1; cases h1
  have hn0 : (((chAt L p : Nat) : Int) == 0) = false := by simpa using hC0
  have hn120 : (((chAt L (p + 1) : Nat) : Int) == 120) = false := by
    rw [beq_eq_false_iff_ne]; intro e
    have : chAt L (p + 1) = 120 := by omega
    rw [this] at h2; cases h2
  have hD1 : isFl (chAt L (p + 1)) = false := by
    unfold isD at h2; unfold isFl
    rw [Bool.and_eq_true, decide_eq_true_eq, decide_eq_true_eq] at h2
    rw [decide_eq_false (by omega)]; rfl
  have hf0 := Lib.hid (fun w => by have := isFile_any (chAt L p) w; rw [h1] at this; exact this)
  have hf1 := Lib.hid (fun w => by have := isFile_any (chAt L (p + 1)) w; rw [hD1] at this; exact this)
  have hf2 := Lib.hid (fun w => by have := isFile_any (chAt L (p + 2)) w; rw [h3] at this; exact this)
  have hd1 := Lib.hid (fun w => by have := isDigit_any (chAt L (p + 1)) w; rw [h2] at this; exact this)
  have hd2 := Lib.hid (fun w => by have := isDigit_any (chAt L (p + 2)) w; rw [h4] at this; exact this)
  have hs0 : p < (tx L).size := hp0
  have hs1 : p + 1 < (tx L).size := hp1
  have hfi : Hid (∀ w : World, Calls Tryd.prog 51 #[.int .u8 ((((tx L)[p]'hs0).toNat : Nat) : Int)] w fun e w' => e = .returned (.bool true) ∧ w = w') := Lib.hid (fun w => (isFile_any _ w).mono (by rintro e w' ⟨rfl, rfl⟩; exact ⟨by rw [tx_at L p hs0, h1], rfl⟩))
  have hdi : Hid (∀ w : World, Calls Tryd.prog 35 #[.int .u8 ((((tx L)[p + 1]'hs1).toNat : Nat) : Int)] w fun e w' => e = .returned (.bool true) ∧ w = w') := Lib.hid (fun w => (isDigit_any _ w).mono (by rintro e w' ⟨rfl, rfl⟩; exact ⟨by rw [tx_at L (p + 1) hs1, h2], rfl⟩))
  have hsl : Hid (∀ wx : World, (Instr.slice 9 (.string (tx L)) (some (.int .i64 (p : Int))) (some (.int .i64 ((p : Int) + 2))) none).run Tryd.prog wx = .ok (.string (tx (mid L p (p + 2)))) wx) := Lib.hid (fun wx => slice_mid L p (p + 2) (by omega) (by omega) wx)
  go_enter Tryd.func38, Tryd.ntmps38
  go_upto_region 1 with (fail)
  generalize (w.alloc (.cells #[.nilIface, .string ⟨#[]⟩, .int .i64 0] 47)) = w1 at *
  have hrd := Lib.hid (readChar_any gl L p f hL (by omega) w1 k1)
  have hrd2 := Lib.hid (fun wx (hk : LexAt gl L (p + 1) f wx) => readChar_any gl L (p + 1) f hL (by omega) wx hk)
  clear h1 h2 h3 h4 hD1 hA hC0
  generalize chAt L p = C0 at *
  replace k1 := Lib.hid k1
  replace hr1 := Lib.hid hr1
  go_upto_region 7 with (first
    | (go_at_call 51; refine (hf0.out _).mono ?_; rintro e w' ⟨rfl, rfl⟩)
    | (go_at_call 20; refine hrd.out.mono ?_; rintro e w2 ⟨rfl, k2, hx2⟩))
  have d3 := k2.cells.2.2.2.1
  have hr2 := Lib.hid (hx2.row hr1.out hgl)
  replace hx2 := Lib.hid (hx1.trans hx2)
  clear hx1 c1 c3 hr1 k1 hrd hf0 hu
  replace k2 := Lib.hid k2
  go_wp2_with (fail)
  go_loopw [] (fun wr => ∃ q : Nat, (q = p + 1 ∨ q = p + 2) ∧ LexAt gl L q f wr ∧ Lx gl w2 wr) (fun wr => p + 3 - posOf gl wr)
  case atStart => exact ⟨p + 1, .inl rfl, k2.out, Lx.refl _ _⟩
  case round =>
    obtain ⟨q, hq, hk, hx⟩ := hrel
    have hpos := hk.pos
    have b3 := hk.cells.2.2.2.1
    rcases hq with rfl | rfl
    · have hrd3 := Lib.hid (hrd2.out wr hk)
      generalize chAt L (p + 1) = C1 at *
      go_upto_region 11 with (first
        | (go_at_call 20; refine hrd3.out.mono ?_; rintro e w4 ⟨rfl, k4, hx4⟩)
        | (go_at_call 35; refine (hd1.out _).mono ?_; rintro e w' ⟨rfl, rfl⟩)
        | (go_at_call 51; refine (hf1.out _).mono ?_; rintro e w' ⟨rfl, rfl⟩))
      replace hx4 := hx.trans hx4
      have b4 := k4.cells.2.2.2.1
      have hpos4 := k4.pos
      cases hz : (((chAt L (p + 2) : Nat) : Int) == 0)
      · replace k4 := Lib.hid k4
        replace hx4 := Lib.hid hx4
        go_wp2_with (fail)
        exact ⟨⟨p + 2, .inr rfl, k4.out, hx4.out⟩, by omega⟩
      · go_upto_region 12 with (fail)
        have x0 : w4.cell? ⟨gl, 0, none⟩ = some (.string (tx L)) := k4.cells.1
        have x1 : w4.cell? ⟨gl, 1, none⟩ = some (.int .i64 ((p : Int) + 2)) := k4.cells.2.1
        have x3 := k4.cells.2.2.2.1
        have hrE := Lib.hid (Lx.row hx4 hr2.out hgl)
        have hxE := Lib.hid (hx2.out.trans hx4)
        have hkE := Lib.hid k4
        have e0 : IntKind.i64.wrap ((p : Int) + 2 - p) = 2 := by rw [show (p : Int) + 2 - p = 2 by omega]; rfl
        have e1 : IntKind.i64.wrap ((p : Int) + 1) = (p : Int) + 1 := IntWalk.i64_in _ (by omega)
        have hb0 : (p : Int) < (L.length : Int) := by omega
        have hb1 : (p : Int) + 1 < (L.length : Int) := by omega
        have hb2 : (0 : Int) ≤ (p : Int) + 1 := by omega
        have hdl : decide ((p : Int) + 1 ≥ (L.length : Int)) = false := decide_eq_false (by omega)
        have hdl2 : decide ((L.length : Int) ≤ (p : Int) + 1) = false := decide_eq_false (by omega)
        go_upto_region 25 with (first
          | (go_at_call 35; refine (hdi.out _).mono ?_; rintro e w' ⟨rfl, rfl⟩)
          | (go_at_call 51; refine (hfi.out _).mono ?_; rintro e w' ⟨rfl, rfl⟩))
        refine wp_region_held_drew (S := fun v => v.cell? ⟨gl, 0, none⟩ = some (.string (tx L)) ∧ v.cell? ⟨gl, 1, none⟩ = some (.int .i64 ((p : Int) + 2))) (by kernel_rfl) ⟨x0, x1⟩ (fun hHeld => ?_)
        (refine wpAnyH_take (i := 0) (v := ?_) rfl (by kernel_rfl) (by kernel_rfl) (by kernel_rfl) (fun _ _ _ h => h) (Or.inl ⟨by rfl, ?_⟩) (by assumption) ?_; rotate_left; · (intro w hSw; go_simp; try with_reducible rfl)); try simp only [List.getElem_toArray, List.getElem_cons_succ, List.getElem_cons_zero, Act.put, List.setIfInBounds_toArray, List.set_cons_zero, List.set_cons_succ]
        (refine wpAnyH_take (i := 1) (v := ?_) rfl (by kernel_rfl) (by kernel_rfl) (by kernel_rfl) (fun _ _ _ h => h) (Or.inl ⟨by rfl, ?_⟩) (by assumption) ?_; rotate_left; · (intro w hSw; go_simp; try with_reducible rfl)); try simp only [List.getElem_toArray, List.getElem_cons_succ, List.getElem_cons_zero, Act.put, List.setIfInBounds_toArray, List.set_cons_zero, List.set_cons_succ]
        (refine wpAnyH_take (i := 2) (v := ?_) rfl (by kernel_rfl) (by kernel_rfl) (by kernel_rfl) (fun _ _ _ h => h) (Or.inl ⟨by rfl, ?_⟩) (by assumption) ?_; rotate_left; · (intro w hSw; go_simp; try with_reducible rfl)); try simp only [List.getElem_toArray, List.getElem_cons_succ, List.getElem_cons_zero, Act.put, List.setIfInBounds_toArray, List.set_cons_zero, List.set_cons_succ]
        (refine wpAnyH_take (i := 3) (v := ?_) rfl (by kernel_rfl) (by kernel_rfl) (by kernel_rfl) (fun _ _ _ h => h) (Or.inl ⟨by rfl, ?_⟩) (by assumption) ?_; rotate_left; · (intro w hSw; go_simp; try with_reducible rfl)); try simp only [List.getElem_toArray, List.getElem_cons_succ, List.getElem_cons_zero, Act.put, List.setIfInBounds_toArray, List.set_cons_zero, List.set_cons_succ]
        (refine wpAnyH_take (i := 4) (v := ?_) rfl (by kernel_rfl) (by kernel_rfl) (by kernel_rfl) (fun _ _ _ h => h) (Or.inl ⟨by rfl, ?_⟩) (by assumption) ?_; rotate_left; · (intro w hSw; go_simp; try with_reducible rfl)); try simp only [List.getElem_toArray, List.getElem_cons_succ, List.getElem_cons_zero, Act.put, List.setIfInBounds_toArray, List.set_cons_zero, List.set_cons_succ]
        (refine wpAnyH_take (i := 5) (v := ?_) rfl (by kernel_rfl) (by kernel_rfl) (by kernel_rfl) (fun _ _ _ h => h) (Or.inl ⟨by rfl, ?_⟩) (by assumption) ?_; rotate_left; · (intro w hSw; go_simp; try with_reducible rfl)); try simp only [List.getElem_toArray, List.getElem_cons_succ, List.getElem_cons_zero, Act.put, List.setIfInBounds_toArray, List.set_cons_zero, List.set_cons_succ]
        (refine wpAnyH_take (i := 6) (v := ?_) rfl (by kernel_rfl) (by kernel_rfl) (by kernel_rfl) (fun _ _ _ h => h) (Or.inl ⟨by rfl, ?_⟩) (by assumption) ?_; rotate_left; · (intro w hSw; go_simp; try with_reducible rfl)); try simp only [List.getElem_toArray, List.getElem_cons_succ, List.getElem_cons_zero, Act.put, List.setIfInBounds_toArray, List.set_cons_zero, List.set_cons_succ]
        (refine wpAnyH_take (i := 7) (v := ?_) rfl (by kernel_rfl) (by kernel_rfl) (by kernel_rfl) (fun _ _ _ h => h) (Or.inl ⟨by rfl, ?_⟩) (by assumption) ?_; rotate_left; · (intro w hSw; go_simp; try with_reducible rfl)); try simp only [List.getElem_toArray, List.getElem_cons_succ, List.getElem_cons_zero, Act.put, List.setIfInBounds_toArray, List.set_cons_zero, List.set_cons_succ]
        (refine wpAnyH_take (i := 8) (v := ?_) rfl (by kernel_rfl) (by kernel_rfl) (by kernel_rfl) (fun _ _ _ h => h) (Or.inl ⟨by rfl, ?_⟩) (by assumption) ?_; rotate_left; · (intro w hSw; go_simp; try with_reducible rfl)); try simp only [List.getElem_toArray, List.getElem_cons_succ, List.getElem_cons_zero, Act.put, List.setIfInBounds_toArray, List.set_cons_zero, List.set_cons_succ]
        have hsl2 := hsl.out
        (refine wpAnyH_take (i := 9) (v := ?_) rfl (by kernel_rfl) (by kernel_rfl) (by kernel_rfl) (fun _ _ _ h => h) (Or.inl ⟨by rfl, ?_⟩) (by assumption) ?_; rotate_left; · (intro w hSw; go_simp; try with_reducible rfl)); try simp only [List.getElem_toArray, List.getElem_cons_succ, List.getElem_cons_zero, Act.put, List.setIfInBounds_toArray, List.set_cons_zero, List.set_cons_succ]
        clear hsl2
        (refine wpAnyH_take (i := 10) (v := ?_) rfl (by kernel_rfl) (by kernel_rfl) (by kernel_rfl) (fun _ _ _ h => h) (Or.inl ⟨by rfl, ?_⟩) (by assumption) ?_; rotate_left; · (intro w hSw; go_simp; try with_reducible rfl)); try simp only [List.getElem_toArray, List.getElem_cons_succ, List.getElem_cons_zero, Act.put, List.setIfInBounds_toArray, List.set_cons_zero, List.set_cons_succ]
        refine wpAnyH_ready (rs := [11]) (by kernel_rfl) (by simp) ?_
        refine AllReadyH.cons rfl (fun K hK => ?_) AllReadyH.nil
        rw [if_pos (by rfl)]
        refine wp_store_mid 47 _ _ rfl w.heap.size 0 #[.nilIface, .string (tx (mid L p (p + 2))), .int .i64 10] rfl rfl (rowIs_there (hrE.out.of_block rfl)) (by kernel_rfl) (by simp [Value.oneCell']) ?_
        have hz := tok_fin (b := w.heap.size) (World.rowIs.of_block (w' := w4.drew) hkE.out rfl) (hxE.out.trans (Lx.drew w4)) (Nat.le_refl _) hgl [.nilIface, .string (tx (mid L p (p + 2))), .int .i64 10]
        refine hK.out _ _ ⟨hz.1.cells.1, hz.1.cells.2.1⟩ (fun hHeld2 => ?_)
        clear hK K hHeld2
        try simp only [List.getElem_toArray, List.getElem_cons_succ, List.getElem_cons_zero, Act.put, List.setIfInBounds_toArray, List.set_cons_zero, List.set_cons_succ]
        refine wpAnyH_done (by kernel_rfl) ?_ _
        go_wp2_with (fail)
        exact bodyPost_ret (tok_ret rfl _ (World.rowIs.of_block (w' := w4.drew) hrE.out rfl) rfl _ _ _) rfl (tok_none (World.rowIs.of_block (w' := w4.drew) hkE.out rfl) (hxE.out.trans (Lx.drew w4)) (Nat.le_refl _) hgl)
    · go_upto_region 12 with (first
        | (go_at_call 35; refine (hd2.out _).mono ?_; rintro e w' ⟨rfl, rfl⟩)
        | (go_at_call 51; refine (hf2.out _).mono ?_; rintro e w' ⟨rfl, rfl⟩))
      have x0 : wr.cell? ⟨gl, 0, none⟩ = some (.string (tx L)) := hk.cells.1
      have x1 : wr.cell? ⟨gl, 1, none⟩ = some (.int .i64 ((p : Int) + 2)) := hk.cells.2.1
      have x3 := hk.cells.2.2.2.1
      have hrE := Lib.hid (Lx.row hx hr2.out hgl)
      have hxE := Lib.hid (hx2.out.trans hx)
      have hkE := Lib.hid hk
      have e0 : IntKind.i64.wrap ((p : Int) + 2 - p) = 2 := by rw [show (p : Int) + 2 - p = 2 by omega]; rfl
      have e1 : IntKind.i64.wrap ((p : Int) + 1) = (p : Int) + 1 := IntWalk.i64_in _ (by omega)
      have hb0 : (p : Int) < (L.length : Int) := by omega
      have hb1 : (p : Int) + 1 < (L.length : Int) := by omega
      have hb2 : (0 : Int) ≤ (p : Int) + 1 := by omega
      have hdl : decide ((p : Int) + 1 ≥ (L.length : Int)) = false := decide_eq_false (by omega)
      have hdl2 : decide ((L.length : Int) ≤ (p : Int) + 1) = false := decide_eq_false (by omega)
      go_upto_region 25 with (first
        | (go_at_call 35; refine (hdi.out _).mono ?_; rintro e w' ⟨rfl, rfl⟩)
        | (go_at_call 51; refine (hfi.out _).mono ?_; rintro e w' ⟨rfl, rfl⟩))
      refine wp_region_held_drew (S := fun v => v.cell? ⟨gl, 0, none⟩ = some (.string (tx L)) ∧ v.cell? ⟨gl, 1, none⟩ = some (.int .i64 ((p : Int) + 2))) (by kernel_rfl) ⟨x0, x1⟩ (fun hHeld => ?_)
      (refine wpAnyH_take (i := 0) (v := ?_) rfl (by kernel_rfl) (by kernel_rfl) (by kernel_rfl) (fun _ _ _ h => h) (Or.inl ⟨by rfl, ?_⟩) (by assumption) ?_; rotate_left; · (intro w hSw; go_simp; try with_reducible rfl)); try simp only [List.getElem_toArray, List.getElem_cons_succ, List.getElem_cons_zero, Act.put, List.setIfInBounds_toArray, List.set_cons_zero, List.set_cons_succ]
      (refine wpAnyH_take (i := 1) (v := ?_) rfl (by kernel_rfl) (by kernel_rfl) (by kernel_rfl) (fun _ _ _ h => h) (Or.inl ⟨by rfl, ?_⟩) (by assumption) ?_; rotate_left; · (intro w hSw; go_simp; try with_reducible rfl)); try simp only [List.getElem_toArray, List.getElem_cons_succ, List.getElem_cons_zero, Act.put, List.setIfInBounds_toArray, List.set_cons_zero, List.set_cons_succ]
      (refine wpAnyH_take (i := 2) (v := ?_) rfl (by kernel_rfl) (by kernel_rfl) (by kernel_rfl) (fun _ _ _ h => h) (Or.inl ⟨by rfl, ?_⟩) (by assumption) ?_; rotate_left; · (intro w hSw; go_simp; try with_reducible rfl)); try simp only [List.getElem_toArray, List.getElem_cons_succ, List.getElem_cons_zero, Act.put, List.setIfInBounds_toArray, List.set_cons_zero, List.set_cons_succ]
      (refine wpAnyH_take (i := 3) (v := ?_) rfl (by kernel_rfl) (by kernel_rfl) (by kernel_rfl) (fun _ _ _ h => h) (Or.inl ⟨by rfl, ?_⟩) (by assumption) ?_; rotate_left; · (intro w hSw; go_simp; try with_reducible rfl)); try simp only [List.getElem_toArray, List.getElem_cons_succ, List.getElem_cons_zero, Act.put, List.setIfInBounds_toArray, List.set_cons_zero, List.set_cons_succ]
      (refine wpAnyH_take (i := 4) (v := ?_) rfl (by kernel_rfl) (by kernel_rfl) (by kernel_rfl) (fun _ _ _ h => h) (Or.inl ⟨by rfl, ?_⟩) (by assumption) ?_; rotate_left; · (intro w hSw; go_simp; try with_reducible rfl)); try simp only [List.getElem_toArray, List.getElem_cons_succ, List.getElem_cons_zero, Act.put, List.setIfInBounds_toArray, List.set_cons_zero, List.set_cons_succ]
      (refine wpAnyH_take (i := 5) (v := ?_) rfl (by kernel_rfl) (by kernel_rfl) (by kernel_rfl) (fun _ _ _ h => h) (Or.inl ⟨by rfl, ?_⟩) (by assumption) ?_; rotate_left; · (intro w hSw; go_simp; try with_reducible rfl)); try simp only [List.getElem_toArray, List.getElem_cons_succ, List.getElem_cons_zero, Act.put, List.setIfInBounds_toArray, List.set_cons_zero, List.set_cons_succ]
      (refine wpAnyH_take (i := 6) (v := ?_) rfl (by kernel_rfl) (by kernel_rfl) (by kernel_rfl) (fun _ _ _ h => h) (Or.inl ⟨by rfl, ?_⟩) (by assumption) ?_; rotate_left; · (intro w hSw; go_simp; try with_reducible rfl)); try simp only [List.getElem_toArray, List.getElem_cons_succ, List.getElem_cons_zero, Act.put, List.setIfInBounds_toArray, List.set_cons_zero, List.set_cons_succ]
      (refine wpAnyH_take (i := 7) (v := ?_) rfl (by kernel_rfl) (by kernel_rfl) (by kernel_rfl) (fun _ _ _ h => h) (Or.inl ⟨by rfl, ?_⟩) (by assumption) ?_; rotate_left; · (intro w hSw; go_simp; try with_reducible rfl)); try simp only [List.getElem_toArray, List.getElem_cons_succ, List.getElem_cons_zero, Act.put, List.setIfInBounds_toArray, List.set_cons_zero, List.set_cons_succ]
      (refine wpAnyH_take (i := 8) (v := ?_) rfl (by kernel_rfl) (by kernel_rfl) (by kernel_rfl) (fun _ _ _ h => h) (Or.inl ⟨by rfl, ?_⟩) (by assumption) ?_; rotate_left; · (intro w hSw; go_simp; try with_reducible rfl)); try simp only [List.getElem_toArray, List.getElem_cons_succ, List.getElem_cons_zero, Act.put, List.setIfInBounds_toArray, List.set_cons_zero, List.set_cons_succ]
      have hsl2 := hsl.out
      (refine wpAnyH_take (i := 9) (v := ?_) rfl (by kernel_rfl) (by kernel_rfl) (by kernel_rfl) (fun _ _ _ h => h) (Or.inl ⟨by rfl, ?_⟩) (by assumption) ?_; rotate_left; · (intro w hSw; go_simp; try with_reducible rfl)); try simp only [List.getElem_toArray, List.getElem_cons_succ, List.getElem_cons_zero, Act.put, List.setIfInBounds_toArray, List.set_cons_zero, List.set_cons_succ]
      clear hsl2
      (refine wpAnyH_take (i := 10) (v := ?_) rfl (by kernel_rfl) (by kernel_rfl) (by kernel_rfl) (fun _ _ _ h => h) (Or.inl ⟨by rfl, ?_⟩) (by assumption) ?_; rotate_left; · (intro w hSw; go_simp; try with_reducible rfl)); try simp only [List.getElem_toArray, List.getElem_cons_succ, List.getElem_cons_zero, Act.put, List.setIfInBounds_toArray, List.set_cons_zero, List.set_cons_succ]
      refine wpAnyH_ready (rs := [11]) (by kernel_rfl) (by simp) ?_
      refine AllReadyH.cons rfl (fun K hK => ?_) AllReadyH.nil
      rw [if_pos (by rfl)]
      refine wp_store_mid 47 _ _ rfl w.heap.size 0 #[.nilIface, .string (tx (mid L p (p + 2))), .int .i64 10] rfl rfl (rowIs_there (hrE.out.of_block rfl)) (by kernel_rfl) (by simp [Value.oneCell']) ?_
      have hz := tok_fin (b := w.heap.size) (World.rowIs.of_block (w' := wr.drew) hkE.out rfl) (hxE.out.trans (Lx.drew wr)) (Nat.le_refl _) hgl [.nilIface, .string (tx (mid L p (p + 2))), .int .i64 10]
      refine hK.out _ _ ⟨hz.1.cells.1, hz.1.cells.2.1⟩ (fun hHeld2 => ?_)
      clear hK K hHeld2
      try simp only [List.getElem_toArray, List.getElem_cons_succ, List.getElem_cons_zero, Act.put, List.setIfInBounds_toArray, List.set_cons_zero, List.set_cons_succ]
      refine wpAnyH_done (by kernel_rfl) ?_ _
      go_wp2_with (fail)
      exact bodyPost_ret (tok_ret rfl _ (World.rowIs.of_block (w' := wr.drew) hrE.out rfl) rfl _ _ _) rfl (tok_none (World.rowIs.of_block (w' := wr.drew) hkE.out rfl) (hxE.out.trans (Lx.drew wr)) (Nat.le_refl _) hgl)
end Go.Proofs.YtlcdhahnngfjhaaDoor

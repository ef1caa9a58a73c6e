/- The rules' positions, weakly: a move made. -/
import Derived.Test.YthdbgjhonnogpaaDoorMvK
import Derived.StillTailTactics
namespace Go.Proofs.YthdbgjhonnogpaaDoor
open Go.ChangeShapes Go.WideShapes Go.ChangeAt Go.RowKit Plain
set_option maxHeartbeats 1000000
set_option linter.unusedVariables false
set_option linter.unusedSimpArgs false

/-- One cell of a position is stored. -/
def gput (g : Nat → Int) (j : Nat) (x : Int) : Nat → Int := fun i => if i = j then x else g i
def BdOk (g : Nat → Int) : Prop := ∀ i, i < 64 → 0 ≤ g i ∧ g i ≤ 12
theorem BdOk.put {g : Nat → Int} (h : BdOk g) (j : Nat) {x : Int} (hx : j < 64 → 0 ≤ x ∧ x ≤ 12) : BdOk (gput g j x) := fun i hi => by
  unfold gput
  split
  · rename_i e; subst e; exact hx hi
  · exact h i hi
/-- The new position's block, in a walk. -/
def OutI (O : Nat) (w3 wx : World) : Prop := ∃ g, BdOk g ∧ wx.rowIs O 24 69 (fun i => .int .i64 (g i)) ∧ Below O w3 wx
theorem out_put {w : World} {O : Nat} {g : Nat → Int} (j : Nat) (x : Int) (h : w.rowIs O 24 69 (fun i => .int .i64 (g i))) :
    (w.setCell ⟨O, j, none⟩ (.int .i64 x)).rowIs O 24 69 (fun i => .int .i64 (gput g j x i)) :=
  (h.set j (.int .i64 x)).congr fun i hi => by
    unfold gput
    split <;> rfl
theorem OutI.put {O : Nat} {w3 w : World} {g : Nat → Int} (j : Nat) (x : Int) (hg : BdOk g) (h : w.rowIs O 24 69 (fun i => .int .i64 (g i))) (hb : Below O w3 w) (hx : j < 64 → 0 ≤ x ∧ x ≤ 12) :
    OutI O w3 (w.setCell ⟨O, j, none⟩ (.int .i64 x)) := ⟨_, hg.put j hx, out_put j x h, hb.setCell (p := ⟨O, j, none⟩) (Nat.le_refl _) _⟩
theorem OutI.drew {O : Nat} {w3 w : World} (h : OutI O w3 w) : OutI O w3 w.drew := by
  obtain ⟨g, h1, h2, h3⟩ := h
  exact ⟨g, h1, h2.of_block rfl, h3.drew⟩
theorem OutI.drewN {O : Nat} {w3 w wc : World} {n : Nat} (h : OutI O w3 w) (hw : wc = w.drewN n) : OutI O w3 wc := by
  subst hw
  obtain ⟨g, h1, h2, h3⟩ := h
  exact ⟨g, h1, h2.of_block rfl, h3.trans ⟨rfl, rfl, rfl, Nat.le_refl _, fun _ _ => rfl⟩⟩
/-- What Made leaves: a position whose board holds pieces. -/
def MadeP (w : World) (e : Ending) (w' : World) : Prop := ∃ g, BdOk g ∧ e = .returned (intRow 69 g) ∧ Below w.heap.size w w'
set_option maxRecDepth 100000 in
theorem made_any (g : Nat → Int) (hg : BdOk g) (c : Nat) (hc1 : c ≤ 1) (hgc : g 64 = (c : Int)) (a b : Nat) (ha : a < 64) (hb : b < 64) (q : Nat) (hq : q ≤ 5) (w : World) :
    Calls Tryd.prog 35 #[intRow 69 g, mvI (a : Int) (b : Int) (q : Int)] w fun e w' => MadeP w e w' := by
  have hr := ((rowIs_new w 24 69 (fun i => .int .i64 (g i))).alloc (.cells #[.int .i64 (a : Int), .int .i64 (b : Int), .int .i64 (q : Int)] 58)).alloc (.cells Tryd.zeroCells24 24)
  have hB : Below w.heap.size w (((w.alloc (.cells (rowArr 69 fun i => .int .i64 (g i)) 24)).alloc (.cells #[.int .i64 (a : Int), .int .i64 (b : Int), .int .i64 (q : Int)] 58)).alloc (.cells Tryd.zeroCells24 24)) := (((Below.refl _ _).alloc (Nat.le_refl _) _).alloc (by simp) _).alloc (by simp; omega) _
  have hm := (World.rowIs_alloc (w.alloc (.cells (rowArr 69 fun i => .int .i64 (g i)) 24)) #[.int .i64 (a : Int), .int .i64 (b : Int), .int .i64 (q : Int)] 58 (fun j => (#[.int .i64 (a : Int), .int .i64 (b : Int), .int .i64 (q : Int)] : Array Value).getD j undef) (fun j hj => by (have hj : j < 3 := hj); (have : j = 0 ∨ j = 1 ∨ j = 2 := (by omega)); rcases this with rfl | rfl | rfl <;> rfl)).alloc (.cells Tryd.zeroCells24 24)
  rw [World.size_alloc] at hm
  unfold intRow mvI
  go_enter Tryd.func35, Tryd.ntmps35
  go_upto_region 1 with (fail)
  have hTk := Lib.hid (fun w => takes_any g hg a b ha hb (q : Int) w)
  have hLf := Lib.hid (fun w => left_any (g 65) a b ha hb (q : Int) w)
  have hxa := hg a ha
  have hKn := Lib.hid (fun w => kindOf_any (g a) hxa.1 (by omega) w)
  unfold intRow mvI at hTk
  unfold mvI at hLf
  generalize hK : kindOf (g a) = KX at *
  clear hK
  have hR : (((w.alloc (.cells (rowArr 69 fun i => .int .i64 (g i)) 24)).alloc (.cells #[.int .i64 (a : Int), .int .i64 (b : Int), .int .i64 (q : Int)] 58)).alloc (.cells Tryd.zeroCells24 24)).rowIs (w.heap.size + 1 + 1) 24 69 (fun _ => .int .i64 0) := by
    have := rowIs_new ((w.alloc (.cells (rowArr 69 fun i => .int .i64 (g i)) 24)).alloc (.cells #[.int .i64 (a : Int), .int .i64 (b : Int), .int .i64 (q : Int)] 58)) 24 69 (fun _ => .int .i64 0)
    rw [World.size_alloc, World.size_alloc] at this
    rw [zeroPos']; exact this
  have hsz : (((w.alloc (.cells (rowArr 69 fun i => .int .i64 (g i)) 24)).alloc (.cells #[.int .i64 (a : Int), .int .i64 (b : Int), .int .i64 (q : Int)] 58)).alloc (.cells Tryd.zeroCells24 24)).heap.size = w.heap.size + 3 := by simp
  generalize (((w.alloc (.cells (rowArr 69 fun i => .int .i64 (g i)) 24)).alloc (.cells #[.int .i64 (a : Int), .int .i64 (b : Int), .int .i64 (q : Int)] 58)).alloc (.cells Tryd.zeroCells24 24)) = w1 at *
  have ca : w1.cell? ⟨w.heap.size + 1, 0, none⟩ = some (.int .i64 (a : Int)) := hm.cell (i := 0) (by simp)
  have cb : w1.cell? ⟨w.heap.size + 1, 1, none⟩ = some (.int .i64 (b : Int)) := hm.cell (i := 1) (by simp)
  have cq : w1.cell? ⟨w.heap.size + 1, 2, none⟩ = some (.int .i64 (q : Int)) := hm.cell (i := 2) (by simp)
  have xa : w1.cell? ⟨w.heap.size, a, none⟩ = some (.int .i64 (g a)) := hr.cell (i := a) (by omega)
  have hal : (a : Int) < 64 := by omega
  have hbl : (b : Int) < 64 := by omega
  have hblk := Lib.hid (rowIs_block hr)
  have hsw := Lib.hid hsz
  have hszl : w.heap.size + 2 < w1.heap.size := by omega
  clear hsz
  replace hm := Lib.hid hm
  go_upto_region 3 with (first
    | (go_at_call 49; refine (hTk.out _).mono ?_; rintro e w2 ⟨⟨t, is, rfl, hti⟩, hb2⟩)
    | (refine wpList_load_row rfl 24 _ rfl w.heap.size rfl _ _ (0, 0) _ hblk.out Tryd.underlying24 rfl (by rw [infoPos', rowArr_size]) ?_))
  have hr2 := rowIs_below hr hb2 (by omega)
  have hsl := Lib.hid (show w.heap.size + 2 < w2.heap.size from Nat.lt_of_lt_of_le hszl hb2.size)
  have hz2 : (w2.alloc (.cells Tryd.zeroCells24 24)).rowIs w2.heap.size 24 69 (fun _ => .int .i64 0) := by
    rw [zeroPos']; exact rowIs_new w2 _ _ _
  have hblk2 := Lib.hid (rowIs_block (hr2.alloc (.cells Tryd.zeroCells24 24)))
  have hblk3 := Lib.hid (rowIs_block hr2)
  have hzb := Lib.hid (rowIs_block hz2)
  clear ca cb cq xa hblk
  go_upto_region 4 with (first
    | (refine wpList_store_row rfl 24 _ _ rfl w2.heap.size _ rfl rfl _ _ hzb.out (by rw [infoPos', rowArr_size]) (by rw [rowArr_size, rowArr_size]) (intRow_one _ _) ?_)
    | (refine wpList_load_row rfl 24 _ rfl w.heap.size rfl _ _ (0, 0) _ hblk3.out Tryd.underlying24 rfl (by rw [infoPos', rowArr_size]) ?_))
  have hrO := rowIs_setRow hz2 (fun i => .int .i64 (g i))
  have hbO : Below w2.heap.size w2 ((w2.alloc (.cells Tryd.zeroCells24 24)).setRow w2.heap.size (rowArr 69 fun i => .int .i64 (g i))) := below_setRow ((Below.refl _ _).alloc (Nat.le_refl _) _) (Nat.le_refl _) _
  generalize ((w2.alloc (.cells Tryd.zeroCells24 24)).setRow w2.heap.size (rowArr 69 fun i => .int .i64 (g i))) = w3 at *
  have hwO := hb2.trans (hbO.mono hb2.size)
  have hFF : ∀ wx, Below w2.heap.size w3 wx → wx.cell? ⟨w.heap.size + 1, 0, none⟩ = some (.int .i64 (a : Int)) ∧ wx.cell? ⟨w.heap.size + 1, 1, none⟩ = some (.int .i64 (b : Int)) ∧ wx.cell? ⟨w.heap.size + 1, 2, none⟩ = some (.int .i64 (q : Int)) ∧ wx.cell? ⟨w.heap.size, 64, none⟩ = some (.int .i64 (c : Int)) ∧ wx.cell? ⟨w.heap.size, 65, none⟩ = some (.int .i64 (g 65)) ∧ wx.rowIs (w.heap.size + 1 + 1) 24 69 (fun _ => .int .i64 0) ∧ w2.heap.size < wx.heap.size := fun wx hx => by
    have hsl := hsl.out
    have hx3 := hwO.trans ((hx.mono hb2.size))
    have m3 := rowIs_below hm.out hx3 (by omega)
    have r3 := rowIs_below hr hx3 (by omega)
    refine ⟨m3.cell (i := 0) (by simp), m3.cell (i := 1) (by simp), m3.cell (i := 2) (by simp), ?_, r3.cell (i := 65) (by omega), rowIs_below hR hx3 (by omega), Nat.lt_of_lt_of_le hrO.lt hx.size⟩
    rw [← hgc]; exact r3.cell (i := 64) (by omega)
  replace hFF := Lib.hid hFF
  have hO := Lib.hid (show OutI w2.heap.size w3 w3 from ⟨g, hg, hrO, Below.refl _ _⟩)
  have hBall := Lib.hid (show ∀ wx, Below w2.heap.size w3 wx → Below w.heap.size w wx from fun wx hx => hB.trans ((hwO.trans (hx.mono hb2.size)).mono hB.size))
  replace hgc := Lib.hid hgc
  clear hr2 hblk2 hblk3 hzb hz2 hrO hbO hwO hb2 hm hr hR hB hTk hszl hsw
  generalize hw2s : w2.heap.size = O at *
  clear hw2s
  generalize hxv : g a = X at *
  clear hxv
  go_upto_if 22 with (fail)
  go_cut [22] from 22 to 25 (fun x0 wx => OutI O w3 wx)
  case first =>
    cases is
    · go_wp2_with (fail)
      go_meet
      exact hO.out
    · obtain ⟨t0, rfl⟩ : ∃ t0 : Nat, t = t0 := ⟨t.toNat, by have := hti rfl; omega⟩
      have ht0 : t0 < 64 := by have := hti rfl; omega
      have htl : (t0 : Int) < 64 := by omega
      obtain ⟨gk, hgk, hrk, hbk⟩ := hO.out
      obtain ⟨ma, mb, mq, p64, p65, hRz, hOs⟩ := hFF.out _ hbk
      have cx0 : w3.cell? ⟨O, t0, none⟩ = some (.int .i64 (gk (t0))) := hrk.cell (i := t0) (by omega)
      have fx0 := hrk.frozen (t0)
      go_wp2_with (fail)
      go_meet
      exact OutI.put t0 0 hgk hrk hbk (fun _ => by omega)
  case rest =>
    have hO := Lib.hid hcut
    clear hcut
    generalize wc = w4 at *
    clear hti
    obtain ⟨gk, hgk, hrk, hbk⟩ := hO.out
    obtain ⟨ma, mb, mq, p64, p65, hRz, hOs⟩ := hFF.out _ hbk
    have cx0 : w4.cell? ⟨O, a, none⟩ = some (.int .i64 (gk (a))) := hrk.cell (i := a) (by omega)
    have fx0 := hrk.frozen (a)
    have hO2 := Lib.hid (OutI.put (a) 0 hgk hrk hbk (fun _ => by omega))
    go_upto_region 7 with (fail)
    generalize (w4.setCell ⟨O, a, none⟩ (.int .i64 0)) = w5 at *
    clear hgk hrk hbk cx0 fx0 ma mb mq p64 p65 hRz hOs gk hO
    have hO := hO2
    clear hO2
    obtain ⟨gk, hgk, hrk, hbk⟩ := hO.out
    obtain ⟨ma, mb, mq, p64, p65, hRz, hOs⟩ := hFF.out _ hbk
    have cx0 : w5.cell? ⟨O, b, none⟩ = some (.int .i64 (gk (b))) := hrk.cell (i := b) (by omega)
    have fx0 := hrk.frozen (b)
    have hO2 := Lib.hid (OutI.put (b) X hgk hrk hbk (fun _ => hxa))
    go_upto_region 8 with (fail)
    generalize (w5.setCell ⟨O, b, none⟩ (.int .i64 X)) = w6 at *
    clear hgk hrk hbk cx0 fx0 ma mb mq p64 p65 hRz hOs gk hO
    have hO := hO2
    clear hO2
    obtain ⟨gk, hgk, hrk, hbk⟩ := hO.out
    obtain ⟨ma, mb, mq, p64, p65, hRz, hOs⟩ := hFF.out _ hbk
    have cx0 : w6.cell? ⟨O, b, none⟩ = some (.int .i64 (gk (b))) := hrk.cell (i := b) (by omega)
    have fx0 := hrk.frozen (b)
    have hO2 := hO
    clear hO
    have hO := hO2
    clear hO2
    go_upto_if 37 with (fail)
    go_cut [37] from 37 to 46 (fun x0 wx => OutI O w3 wx)
    case first =>
      go_wp2_with (fail)
      · refine wp_region_still_tail 9 (by kernel_rfl) (by kernel_rfl) ?_
        simp only [List.take_succ_cons, List.take_zero, List.drop_succ_cons, List.drop_zero]
        have hOd := hO.out.drew
        rw [show ({ heap := w6.heap, tape := w6.tape, drawn := w6.drawn + 1, os := w6.os, output := w6.output } : World) = w6.drew from rfl]
        clear ma mb mq p64 p65 hRz hOs hgk hrk hbk cx0 fx0 hO
        generalize w6.drew = wd at *
        have hO := Lib.hid hOd
        obtain ⟨gk, hgk, hrk, hbk⟩ := hO.out
        obtain ⟨ma, mb, mq, p64, p65, hRz, hOs⟩ := hFF.out _ hbk
        have cx0 : wd.cell? ⟨O, b, none⟩ = some (.int .i64 (gk (b))) := hrk.cell (i := b) (by omega)
        have fx0 := hrk.frozen (b)
        repeat still_step
        still_call ((of_any (q : Int) (c : Int) (by omega) (by omega) (by omega) (by omega) wd).mono fun e w' ⟨h1, h2⟩ => ⟨h1, h2.symm⟩)
        repeat still_step
        refine wpStill_nil ?_
        go_wp2_with (fail)
        go_meet
        exact OutI.put b _ hgk hrk hbk (fun _ => by omega)
      · go_meet
        exact hO.out
    case rest =>
      have hO := Lib.hid hcut
      clear hcut
      generalize wc = w7 at *
      clear ma mb mq p64 p65 hRz hOs hgk hrk hbk cx0 fx0
      obtain ⟨gk, hgk, hrk, hbk⟩ := hO.out
      obtain ⟨ma, mb, mq, p64, p65, hRz, hOs⟩ := hFF.out _ hbk
      go_upto_region 10 with (fail)
      go_cut [65] from 48 to 65 (fun x wx => (∃ y, x = .bool y) ∧ wx = w7)
      case first =>
        clear hgk hrk hbk
        cases k0 : (KX == 1)
        · go_wp2_with (go_at_call 22; refine (hKn.out _).mono ?_; rintro e w' ⟨rfl, rfl⟩)
          go_meet
          exact ⟨⟨_, rfl⟩, rfl⟩
        · cases k1 : ((b : Int) == (a : Int) + 2)
          · cases k2 : ((b : Int) == (a : Int) - 2)
            all_goals
              go_wp2_with (go_at_call 22; refine (hKn.out _).mono ?_; rintro e w' ⟨rfl, rfl⟩)
              go_meet
              exact ⟨⟨_, rfl⟩, rfl⟩
          · go_wp2_with (go_at_call 22; refine (hKn.out _).mono ?_; rintro e w' ⟨rfl, rfl⟩)
            go_meet
            exact ⟨⟨_, rfl⟩, rfl⟩
      case rest =>
        obtain ⟨⟨y0, rfl⟩, hwc⟩ := hcut
        subst hwc
        have hO2 := hO
        clear hO
        have hO := hO2
        clear hO2
        generalize wc = w8 at *
        go_upto_if 65 with (fail)
        go_cut [9, 65] from 65 to 92 (fun x0 x1 wx => OutI O w3 wx)
        case first =>
          cases y0
          · go_wp2_with (fail)
            go_meet
            exact hO.out
          · go_upto_region 14 with (first
              | (go_at_call 23; refine (at_any _ _ (by omega) (by omega) (by omega) (by omega) _).mono ?_; rintro e w' ⟨rfl, rfl⟩)
              | (go_at_call 8; refine (rank_any _ (by omega) (by omega) _).mono ?_; rintro e w' ⟨rfl, rfl⟩))
            · obtain ⟨C, hC, hC1⟩ : ∃ C : Nat, atOf 0 ((a : Int) / 8) = C ∧ C < 64 := ⟨(atOf 0 ((a : Int) / 8)).toNat, by unfold atOf; rw [if_pos (by omega)]; omega, by unfold atOf; rw [if_pos (by omega)]; omega⟩
              rw [hC]
              clear hC
              have hCl : (C : Int) < 64 := by omega
              have cxC : w8.cell? ⟨O, C, none⟩ = some (.int .i64 (gk C)) := hrk.cell (i := C) (by omega)
              have fxC := hrk.frozen C
              have hO2 := OutI.put C 0 hgk hrk hbk (fun _ => by omega)
              go_upto_region 15 with (fail)
              generalize (w8.setCell ⟨O, C, none⟩ (.int .i64 0)) = w9 at *
              clear cxC fxC hgk hrk hbk ma mb mq p64 p65 hRz hOs gk hO
              obtain ⟨M, hM, hM1⟩ : ∃ M : Nat, ((a : Int) + (b : Int)).tdiv 2 = M ∧ M < 64 := ⟨(a + b) / 2, by rw [Int.tdiv_eq_ediv_of_nonneg (by omega)]; omega, by omega⟩
              have hMl : (M : Int) < 64 := by omega
              have hw1 : IntKind.i64.wrap ((a : Int) + (b : Int)) = (a : Int) + b := IntWalk.i64_in _ (by omega)
              have hw2 : IntKind.i64.wrap (M : Int) = M := IntWalk.i64_in _ (by omega)
              refine wp_region_still_tail 11 (by kernel_rfl) (by kernel_rfl) ?_
              simp only [List.take_succ_cons, List.take_zero, List.drop_succ_cons, List.drop_zero]
              have hOd := hO2.drew
              rw [show ({ heap := w9.heap, tape := w9.tape, drawn := w9.drawn + 1, os := w9.os, output := w9.output } : World) = w9.drew from rfl]
              clear hO2
              generalize w9.drew = wd at *
              have hO := Lib.hid hOd
              obtain ⟨gk, hgk, hrk, hbk⟩ := hO.out
              obtain ⟨ma, mb, mq, p64, p65, hRz, hOs⟩ := hFF.out _ hbk
              have cx0 : wd.cell? ⟨O, M, none⟩ = some (.int .i64 (gk (M))) := hrk.cell (i := M) (by omega)
              have fx0 := hrk.frozen (M)
              repeat still_step
              still_call ((of_any 3 (c : Int) (by omega) (by omega) (by omega) (by omega) wd).mono fun e w' ⟨h1, h2⟩ => ⟨h1, h2.symm⟩)
              repeat still_step
              refine wpStill_nil ?_
              go_wp2_with (fail)
              go_meet
              exact OutI.put M _ hgk hrk hbk (fun _ => by omega)
            · obtain ⟨C, hC, hC1⟩ : ∃ C : Nat, atOf 7 ((a : Int) / 8) = C ∧ C < 64 := ⟨(atOf 7 ((a : Int) / 8)).toNat, by unfold atOf; rw [if_pos (by omega)]; omega, by unfold atOf; rw [if_pos (by omega)]; omega⟩
              rw [hC]
              clear hC
              have hCl : (C : Int) < 64 := by omega
              have cxC : w8.cell? ⟨O, C, none⟩ = some (.int .i64 (gk C)) := hrk.cell (i := C) (by omega)
              have fxC := hrk.frozen C
              have hO2 := OutI.put C 0 hgk hrk hbk (fun _ => by omega)
              go_upto_region 15 with (fail)
              generalize (w8.setCell ⟨O, C, none⟩ (.int .i64 0)) = w9 at *
              clear cxC fxC hgk hrk hbk ma mb mq p64 p65 hRz hOs gk hO
              obtain ⟨M, hM, hM1⟩ : ∃ M : Nat, ((a : Int) + (b : Int)).tdiv 2 = M ∧ M < 64 := ⟨(a + b) / 2, by rw [Int.tdiv_eq_ediv_of_nonneg (by omega)]; omega, by omega⟩
              have hMl : (M : Int) < 64 := by omega
              have hw1 : IntKind.i64.wrap ((a : Int) + (b : Int)) = (a : Int) + b := IntWalk.i64_in _ (by omega)
              have hw2 : IntKind.i64.wrap (M : Int) = M := IntWalk.i64_in _ (by omega)
              refine wp_region_still_tail 11 (by kernel_rfl) (by kernel_rfl) ?_
              simp only [List.take_succ_cons, List.take_zero, List.drop_succ_cons, List.drop_zero]
              have hOd := hO2.drew
              rw [show ({ heap := w9.heap, tape := w9.tape, drawn := w9.drawn + 1, os := w9.os, output := w9.output } : World) = w9.drew from rfl]
              clear hO2
              generalize w9.drew = wd at *
              have hO := Lib.hid hOd
              obtain ⟨gk, hgk, hrk, hbk⟩ := hO.out
              obtain ⟨ma, mb, mq, p64, p65, hRz, hOs⟩ := hFF.out _ hbk
              have cx0 : wd.cell? ⟨O, M, none⟩ = some (.int .i64 (gk (M))) := hrk.cell (i := M) (by omega)
              have fx0 := hrk.frozen (M)
              repeat still_step
              still_call ((of_any 3 (c : Int) (by omega) (by omega) (by omega) (by omega) wd).mono fun e w' ⟨h1, h2⟩ => ⟨h1, h2.symm⟩)
              repeat still_step
              refine wpStill_nil ?_
              go_wp2_with (fail)
              go_meet
              exact OutI.put M _ hgk hrk hbk (fun _ => by omega)
        case rest =>
          have hO := Lib.hid hcut
          clear hcut
          generalize wc = w10 at *
          obtain ⟨gk, hgk, hrk, hbk⟩ := hO.out
          obtain ⟨ma, mb, mq, p64, p65, hRz, hOs⟩ := hFF.out _ hbk
          have cx0 : w10.cell? ⟨O, 65, none⟩ = some (.int .i64 (gk (65))) := hrk.cell (i := 65) (by omega)
          have fx0 := hrk.frozen (65)
          go_upto_region 16 with (fail)
          go_upto_region 17 with (go_at_call 50; refine (hLf.out _).mono ?_; rintro e w11 ⟨⟨yl, rfl⟩, hbl⟩; have hr11 := rowIs_below hrk hbl hOs; have hB11 := hbk.trans (hbl.mono (Nat.le_of_lt hOs)); have cx1 : w11.cell? ⟨O, 65, none⟩ = some (.int .i64 (gk 65)) := hr11.cell (i := 65) (by omega); have fx1 := hr11.frozen 65; have hOl := Lib.hid (OutI.put 65 yl hgk hr11 hB11 (fun h => by omega)); clear hr11 hB11 hbl)
          generalize (w11.setCell ⟨O, 65, none⟩ (.int .i64 yl)) = w12 at *
          clear cx0 fx0 cx1 fx1 hgk hrk hbk ma mb mq p64 p65 hRz hOs gk hO
          have hO := hOl
          clear hOl
          obtain ⟨gk, hgk, hrk, hbk⟩ := hO.out
          obtain ⟨ma, mb, mq, p64, p65, hRz, hOs⟩ := hFF.out _ hbk
          have cx0 : w12.cell? ⟨O, 66, none⟩ = some (.int .i64 (gk (66))) := hrk.cell (i := 66) (by omega)
          have fx0 := hrk.frozen (66)
          have hO2 := Lib.hid (OutI.put (66) (-1) hgk hrk hbk (fun _ => by omega))
          go_upto_region 18 with (fail)
          generalize (w12.setCell ⟨O, 66, none⟩ (.int .i64 (-1))) = w13 at *
          clear hgk hrk hbk cx0 fx0 ma mb mq p64 p65 hRz hOs gk hO
          have hO := hO2
          clear hO2
          obtain ⟨gk, hgk, hrk, hbk⟩ := hO.out
          obtain ⟨ma, mb, mq, p64, p65, hRz, hOs⟩ := hFF.out _ hbk
          go_cut [117] from 99 to 117 (fun x wx => (∃ y, x = .bool y) ∧ wx = w13)
          case first =>
            clear hgk hrk hbk
            cases k0 : (KX == 6)
            · go_wp2_with (go_at_call 22; refine (hKn.out _).mono ?_; rintro e w' ⟨rfl, rfl⟩)
              go_meet
              exact ⟨⟨_, rfl⟩, rfl⟩
            · cases k1 : ((b : Int) == (a : Int) + 16)
              · cases k2 : ((b : Int) == (a : Int) - 16)
                all_goals
                  go_wp2_with (go_at_call 22; refine (hKn.out _).mono ?_; rintro e w' ⟨rfl, rfl⟩)
                  go_meet
                  exact ⟨⟨_, rfl⟩, rfl⟩
              · go_wp2_with (go_at_call 22; refine (hKn.out _).mono ?_; rintro e w' ⟨rfl, rfl⟩)
                go_meet
                exact ⟨⟨_, rfl⟩, rfl⟩
          case rest =>
            obtain ⟨⟨y1, rfl⟩, hwc⟩ := hcut
            subst hwc
            have hO2 := hO
            clear hO
            have hO := hO2
            clear hO2
            generalize wc = w14 at *
            go_upto_if 117 with (fail)
            go_cut [117] from 117 to 124 (fun x0 wx => OutI O w3 wx)
            case first =>
              cases y1
              · go_wp2_with (fail)
                go_meet
                exact hO.out
              · obtain ⟨M, hM, hM1⟩ : ∃ M : Nat, ((a : Int) + (b : Int)).tdiv 2 = M ∧ M < 64 := ⟨(a + b) / 2, by rw [Int.tdiv_eq_ediv_of_nonneg (by omega)]; omega, by omega⟩
                have cx0 : w14.cell? ⟨O, 66, none⟩ = some (.int .i64 (gk 66)) := hrk.cell (i := 66) (by omega)
                have fx0 := hrk.frozen 66
                go_wp2_with (fail)
                go_meet
                exact OutI.put 66 _ hgk hrk hbk (fun h => by omega)
            case rest =>
              have hO := Lib.hid hcut
              clear hcut
              generalize wc = w15 at *
              try clear ma mb mq p64 p65 hRz hOs hgk hrk hbk
              obtain ⟨gk, hgk, hrk, hbk⟩ := hO.out
              obtain ⟨ma, mb, mq, p64, p65, hRz, hOs⟩ := hFF.out _ hbk
              have cx0 : w15.cell? ⟨O, 67, none⟩ = some (.int .i64 (gk (67))) := hrk.cell (i := 67) (by omega)
              have fx0 := hrk.frozen (67)
              have hO2 := Lib.hid (OutI.put (67) (wrap64 (gk 67 + 1)) hgk hrk hbk (fun h => by omega))
              go_upto_region 21 with (fail)
              generalize (w15.setCell ⟨O, 67, none⟩ (.int .i64 (wrap64 (gk 67 + 1)))) = w16 at *
              clear hgk hrk hbk cx0 fx0
              generalize gk 67 = hv67 at *
              clear ma mb mq p64 p65 hRz hOs gk hO
              have hO := hO2
              clear hO2
              go_cut [134] from 129 to 134 (fun x wx => (∃ y, x = .bool y) ∧ wx = w16)
              case first =>
                cases is
                · cases k0 : (KX == 6)
                  all_goals
                    go_wp2_with (go_at_call 22; refine (hKn.out _).mono ?_; rintro e w' ⟨rfl, rfl⟩)
                    go_meet
                    exact ⟨⟨_, rfl⟩, rfl⟩
                · go_wp2_with (fail)
                  go_meet
                  exact ⟨⟨_, rfl⟩, rfl⟩
              case rest =>
                obtain ⟨⟨y2, rfl⟩, hwc⟩ := hcut
                subst hwc
                have hO2 := hO
                clear hO
                have hO := hO2
                clear hO2
                generalize wc = w17 at *
                go_upto_if 134 with (fail)
                go_cut [134] from 134 to 135 (fun x0 wx => OutI O w3 wx)
                case first =>
                  cases y2
                  · go_wp2_with (fail)
                    go_meet
                    exact hO.out
                  · obtain ⟨gk, hgk, hrk, hbk⟩ := hO.out
                    have cx0 : w17.cell? ⟨O, 67, none⟩ = some (.int .i64 (gk 67)) := hrk.cell (i := 67) (by omega)
                    have fx0 := hrk.frozen 67
                    go_wp2_with (fail)
                    go_meet
                    exact OutI.put 67 _ hgk hrk hbk (fun h => by omega)
                case rest =>
                  have hO := Lib.hid hcut
                  clear hcut
                  generalize wc = w18 at *
                  obtain ⟨gk, hgk, hrk, hbk⟩ := hO.out
                  obtain ⟨ma, mb, mq, p64, p65, hRz, hOs⟩ := hFF.out _ hbk
                  have cx0 : w18.cell? ⟨O, 68, none⟩ = some (.int .i64 (gk (68))) := hrk.cell (i := 68) (by omega)
                  have fx0 := hrk.frozen (68)
                  have hO2 := Lib.hid (OutI.put (68) (wrap64 (gk 68 + (c : Int))) hgk hrk hbk (fun h => by omega))
                  go_upto_region 24 with (fail)
                  generalize (w18.setCell ⟨O, 68, none⟩ (.int .i64 (wrap64 (gk 68 + (c : Int))))) = w19 at *
                  clear hgk hrk hbk cx0 fx0
                  generalize gk 68 = hv68 at *
                  clear ma mb mq p64 p65 hRz hOs gk hO
                  have hO := hO2
                  clear hO2
                  obtain ⟨gk, hgk, hrk, hbk⟩ := hO.out
                  obtain ⟨ma, mb, mq, p64, p65, hRz, hOs⟩ := hFF.out _ hbk
                  have cx0 : w19.cell? ⟨O, 64, none⟩ = some (.int .i64 (gk (64))) := hrk.cell (i := 64) (by omega)
                  have fx0 := hrk.frozen (64)
                  have hO2 := Lib.hid (OutI.put (64) (1 - (c : Int)) hgk hrk hbk (fun _ => by omega))
                  go_upto_region 25 with (fail)
                  generalize (w19.setCell ⟨O, 64, none⟩ (.int .i64 (1 - (c : Int)))) = w20 at *
                  clear hgk hrk hbk cx0 fx0 ma mb mq p64 p65 hRz hOs gk hO
                  have hO := hO2
                  clear hO2
                  obtain ⟨gk, hgk, hrk, hbk⟩ := hO.out
                  obtain ⟨ma, mb, mq, p64, p65, hRz, hOs⟩ := hFF.out _ hbk
                  have hblkO := Lib.hid (rowIs_block hrk)
                  have hblkR := Lib.hid (rowIs_block hRz)
                  have hfin := Lib.hid (show Below w.heap.size w (w20.setRow (w.heap.size + 1 + 1) (rowArr 69 fun i => .int .i64 (gk i))) from below_setRow (hBall.out _ hbk) (by omega) _)
                  have hcell := Lib.hid (rowIs_block (rowIs_setRow hRz (fun i => .int .i64 (gk i))))
                  clear hrk hRz
                  go_wp2_with (first
                    | (refine wpList_store_row rfl 24 _ _ rfl (w.heap.size + 1 + 1) _ rfl rfl _ _ hblkR.out (by rw [infoPos', rowArr_size]) (by rw [rowArr_size, rowArr_size]) (intRow_one _ _) ?_)
                    | (refine wpList_load_row rfl 24 _ rfl O rfl _ _ (0, 0) _ hblkO.out Tryd.underlying24 rfl (by rw [infoPos', rowArr_size]) ?_))
                  refine bodyPost_ret (results_cell_row rfl _ _ (w.heap.size + 1 + 1) _ _ (0, 0) _ rfl hcell.out Tryd.underlying24 rfl (by rw [infoPos', rowArr_size])) rfl ?_
                  exact ⟨gk, hgk, rfl, hfin.out⟩
end Go.Proofs.YthdbgjhonnogpaaDoor

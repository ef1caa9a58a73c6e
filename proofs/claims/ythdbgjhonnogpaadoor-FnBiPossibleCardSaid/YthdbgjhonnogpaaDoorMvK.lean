/- The rules' moves, weakly: all moves but for check. -/
import Derived.Test.YthdbgjhonnogpaaDoorMvJ
namespace Go.Proofs.YthdbgjhonnogpaaDoor
open Go.ChangeShapes Go.WideShapes Go.ChangeAt Go.RowKit Plain
set_option maxHeartbeats 1000000
set_option linter.unusedVariables false
set_option linter.unusedSimpArgs false

theorem reach_sq (g : Nat → Int) (hg : ∀ i, i < 64 → 0 ≤ g i ∧ g i ≤ 12) (s : Nat) (hs : s < 64) (w : World) :
    Calls Tryd.prog 12 #[intRow 69 g, .int .i64 (s : Int)] w fun e w' => SqPost 56 w e w' := by
  refine (reach_any g hg s hs w).mono ?_
  rintro e w' ⟨v, B, rfl, ho, hB, hb⟩
  exact ⟨v, rfl, _, reachL_lt _ _ _, reachL_length _ _ _, own_weaker ho hB, hb⟩
/-- A slice of squares that is read stays apart from the slice of moves that grows. -/
def Apart (out : Value) (ha : Option Addr) (N : Nat) (w6 wr : World) : Prop := ∀ gq, ha = some ⟨gq, 0, none⟩ → 0 < N → out.ownBlock ≠ some gq ∧ wr.heap[gq]? = w6.heap[gq]? ∧ gq < wr.heap.size
/-- What is held while moves are found. -/
def PI (B n : Nat) (w1 : World) (ha : Option Addr) (N : Nat) (w6 : World) (out : Value) (wr : World) : Prop := MvOwn B n out wr ∧ Apart out ha N w6 wr ∧ Below B w1 wr
theorem PI.mono {B n m : Nat} {w1 w6 wr : World} {ha : Option Addr} {N : Nat} {out : Value} (h : PI B n w1 ha N w6 out wr) (hm : n ≤ m) : PI B m w1 ha N w6 out wr := ⟨h.1.mono hm, h.2⟩
theorem PI.drew {B n : Nat} {w1 w6 wr wc : World} {ha : Option Addr} {N nq : Nat} {out : Value} (h : PI B n w1 ha N w6 out wr) (hw : wc = wr.drewN nq) : PI B n w1 ha N w6 out wc := by
  subst hw
  exact ⟨h.1.below ⟨rfl, rfl, rfl, Nat.le_refl _, fun _ _ => rfl⟩, h.2.1, h.2.2.trans ⟨rfl, rfl, rfl, Nat.le_refl _, fun _ _ => rfl⟩⟩
theorem PI_app {B n : Nat} {w1 w6 wr w8 : World} {ha : Option Addr} {N g2 cap : Nat} {out : Value} {l : List M3} {m : M3} (hl : ∀ x ∈ l, MvOk x) (hm : MvOk m) (hn : l.length ≤ n)
    (hown8 : w8.ownsRow B 58 3 (.slice (some ⟨g2, 0, none⟩) (l.length + 1) cap) (l.length + 1) (mvs l ++ encM m)) (hB8 : Below B w1 w8)
    (hkp : ∀ k, k < wr.heap.size → out.ownBlock ≠ some k → w8.heap[k]? = wr.heap[k]?) (hat : out.ownBlock = some g2 ∨ wr.heap.size ≤ g2) (hap : Apart out ha N w6 wr) :
    PI B (n + 1) w1 ha N w6 (.slice (some ⟨g2, 0, none⟩) (l.length + 1) cap) w8 := by
  refine ⟨MvOwn.next hl hm hn hown8, fun gq hq hN => ?_, hB8⟩
  obtain ⟨h1, h2, h3⟩ := hap gq hq hN
  refine ⟨?_, (hkp gq h3 h1).trans h2, ?_⟩
  · simp only [Value.ownBlock]
    intro e
    injection e with e
    subst e
    rcases hat with h | h
    · exact h1 h
    · omega
  · rcases Nat.lt_or_ge gq w8.heap.size with h | h
    · exact h
    · have e1 := hkp gq h3 h1
      rw [Array.getElem?_eq_none h, Array.getElem?_eq_getElem h3] at e1
      cases e1
theorem mv_ok_apps {l r : List M3} (h1 : ∀ x ∈ l, MvOk x) (h2 : ∀ x ∈ r, MvOk x) : ∀ x ∈ l ++ r, MvOk x := fun x hx => by
  rcases List.mem_append.1 hx with h | h
  · exact h1 x h
  · exact h2 x h
set_option maxRecDepth 100000 in
theorem pseudo_any (g : Nat → Int) (hg : ∀ i, i < 64 → 0 ≤ g i ∧ g i ≤ 12) (c : Nat) (hc1 : c ≤ 1) (hgc : g 64 = (c : Int)) (w : World) :
    Calls Tryd.prog 34 #[intRow 69 g] w fun e w' => MvPost 14338 w e w' := by
  have hr := rowIs_new w 24 69 (fun i => .int .i64 (g i))
  have hBw : Below w.heap.size w (w.alloc (.cells (rowArr 69 fun i => .int .i64 (g i)) 24)) := (Below.refl _ _).alloc (Nat.le_refl _) _
  have hCas := Lib.hid (fun w => castles_any g hg c hc1 hgc w)
  have hSt := Lib.hid (fun (s : Nat) (hs : s < 64) w => steps_any g hg s hs w)
  have hRe := Lib.hid (fun (s : Nat) (hs : s < 64) w => reach_sq g hg s hs w)
  unfold intRow at hCas hSt hRe
  unfold intRow
  go_enter Tryd.func34, Tryd.ntmps34
  go_upto_region 2 with (fail)
  have hsz : (w.alloc (.cells (rowArr 69 fun i => .int .i64 (g i)) 24)).heap.size = w.heap.size + 1 := World.size_alloc _ _
  generalize (w.alloc (.cells (rowArr 69 fun i => .int .i64 (g i)) 24)) = w1 at *
  have hszB : w.heap.size + 1 ≤ w1.heap.size := by omega
  have hrA : ∀ wz, Below (w.heap.size + 1) w1 wz → wz.rowIs w.heap.size 24 69 (fun i => .int .i64 (g i)) := fun wz h => rowIs_below hr h (by omega)
  replace hrA := Lib.hid hrA
  replace hBw := Lib.hid hBw
  replace hgc := Lib.hid hgc
  clear hr
  go_wp2_with (fail)
  go_loopw [3, 4] (fun out i wr => ∃ k : Nat, i = .int .i64 (k : Int) ∧ k ≤ 64 ∧ MvOwn (w.heap.size + 1) (224 * k) out wr ∧ Below (w.heap.size + 1) w1 wr) (fun _ i _ => 64 - (intOf i).toNat)
  case atStart => exact ⟨0, rfl, by omega, MvOwn.nil _ _ _, Below.refl _ _⟩
  case round =>
    obtain ⟨k, rfl, hk, ho, hb⟩ := hrel
    have hrw := hrA.out _ hb
    have hszr : w.heap.size + 1 ≤ wr.heap.size := by have := hb.size; omega
    by_cases hlt : k < 64
    · have hd : decide ((k : Int) < 64) = true := decide_eq_true (by omega)
      have c64 : wr.cell? ⟨w.heap.size, 64, none⟩ = some (.int .i64 (c : Int)) := by rw [← hgc.out]; exact hrw.cell (i := 64) (by omega)
      have ck : wr.cell? ⟨w.heap.size, k, none⟩ = some (.int .i64 (g k)) := hrw.cell (i := k) (by omega)
      have hkl : (k : Int) < 64 := by omega
      have hgk := hg k hlt
      have hkn := Lib.hid (fun w => kindOf_any (g k) hgk.1 (by omega) w)
      have hsd := Lib.hid (fun w => sideOf_any (g k) w)
      clear hrw
      replace hg := Lib.hid hg
      generalize kindOf (g k) = K at *
      generalize hsx : sideOf (g k) = SX at *
      clear hsx
      generalize g k = X at *
      replace ho := Lib.hid ho
      replace hb := Lib.hid hb
      clear hgk
      go_upto_region 6 with (fail)
      go_cut [26] from 18 to 26 (fun x wx => (∃ b, x = .bool b) ∧ ∃ n, wx = wr.drewN n)
      case first =>
        cases x0 : (X == 0)
        · cases x1 : (SX != (c : Int))
          all_goals
            go_quiet ((go_at_call 38; exact q_of (hsd.out _)))
            go_wp2_with (fail)
            go_meet
            exact ⟨⟨_, rfl⟩, _, rfl⟩
        · go_quiet (fail)
          go_wp2_with (fail)
          go_meet
          exact ⟨⟨_, rfl⟩, _, rfl⟩
      case rest =>
        obtain ⟨⟨b, rfl⟩, nq, hwc⟩ := hcut
        have kB : Below wr.heap.size wr wc := by rw [hwc]; exact ⟨rfl, rfl, rfl, Nat.le_refl _, fun _ _ => rfl⟩
        have hb2 := hb.out.trans (kB.mono hszr)
        have ho2 := Lib.hid (ho.out.below kB)
        have hsz2 : w.heap.size + 1 ≤ wc.heap.size := Nat.le_trans hszr kB.size
        have hrc := hrA.out _ hb2
        clear hwc kB ho hb c64 ck hszr
        replace hb2 := Lib.hid hb2
        cases b
        · have hblk := Lib.hid (rowIs_block hrc)
          clear hrc
          have hne6 : ∀ gq, wc.heap.size ≤ gq → u3.ownBlock ≠ some gq := fun gq hq e => by
            rcases ho2.out.block with h | ⟨b, h, _, hlt⟩
            · rw [h] at e; cases e
            · rw [h] at e; injection e with e; omega
          replace hne6 := Lib.hid hne6
          go_upto_if 29 with (go_at_call 22; refine (hkn.out _).mono ?_; rintro e w' ⟨rfl, rfl⟩)
          go_cut [6] from 27 to 35 (fun x wx => SqOwn wc.heap.size 56 x wx ∧ Below wc.heap.size wc wx)
          case first =>
            cases x2 : (K == 6)
            · go_wp2_with (first
                | (go_at_call 12; refine (hRe.out k hlt _).mono ?_; rintro e w3 ⟨u3, rfl, l3, h31, h32, h33, hb3⟩; have hso := Lib.hid (show SqOwn wc.heap.size 56 u3 w3 from ⟨l3, h31, h32, h33⟩); clear h33 h31)
                | (refine wpList_load_row rfl 24 _ rfl w.heap.size rfl _ _ (0, 0) _ hblk.out Tryd.underlying24 rfl (by rw [infoPos', rowArr_size]) ?_))
              go_meet
              exact ⟨hso.out, hb3⟩
            · go_wp2_with (first
                | (go_at_call 20; refine (hSt.out k hlt _).mono ?_; rintro e w3 ⟨u3, rfl, l3, h31, h32, h33, hb3⟩; have hso := Lib.hid (show SqOwn wc.heap.size 56 u3 w3 from ⟨l3, h31, by omega, h33⟩); clear h33 h31)
                | (refine wpList_load_row rfl 24 _ rfl w.heap.size rfl _ _ (0, 0) _ hblk.out Tryd.underlying24 rfl (by rw [infoPos', rowArr_size]) ?_))
              go_meet
              exact ⟨hso.out, hb3⟩
          case rest =>
            obtain ⟨⟨lh, hlh, hlhl, hoh⟩, hBh⟩ := hcut
            obtain ⟨ha, hc, rfl, hcells⟩ := ints_cells rfl hoh
            have hb6 := hb2.out.trans (hBh.mono hsz2)
            have ho6 := ho2.out.below hBh
            have hsz6 := Nat.le_trans hsz2 hBh.size
            have hrc6 := Lib.hid (rowIs_block (hrA.out _ hb6))
            have hPI0 := Lib.hid (show PI (w.heap.size + 1) (224 * k + 4 * 0) w1 ha lh.length wc u3 wc from ⟨ho6.mono (by omega), fun gq hq hN => by
              obtain ⟨g2, h2, h3, h4, _⟩ := hcells hN
              rw [hq] at h2
              injection h2 with h2
              injection h2 with h2
              subst h2
              exact ⟨hne6.out gq h3, rfl, h4⟩, hb6⟩)
            clear hoh hBh ho6 hb6 ho2 hb2 hne6
            replace hcells := Lib.hid hcells
            generalize wc = w6 at *
            go_upto_region 12 with (fail)
            go_loopw [3, 7] (fun out i wr => ∃ q : Nat, q ≤ lh.length ∧ i = .int .i64 (q : Int) ∧ PI (w.heap.size + 1) (224 * k + 4 * q) w1 ha lh.length w6 out wr) (fun _ i _ => lh.length - (intOf i).toNat)
            case atStart => exact ⟨0, by omega, rfl, hPI0.out⟩
            case round =>
              clear hPI0
              obtain ⟨q, hq, rfl, hPI⟩ := hrel
              by_cases hql : q < lh.length
              · obtain ⟨gq, rfl, hgB, hgs, hcl⟩ := hcells.out (by omega)
                have hcq : wr.cell? ⟨gq, q, none⟩ = some (.int .i64 ((lh.getD q 0 : Nat) : Int)) := by rw [World.cell?_of_block (hPI.2.1 gq rfl (by omega)).2.1]; exact hcl q hql
                have ht : lh.getD q 0 < 64 := by
                  rw [List.getD_eq_getElem?_getD, List.getElem?_eq_getElem hql]
                  exact hlh _ (List.getElem_mem hql)
                have hr7 := hrA.out _ hPI.2.2
                clear hcl
                generalize lh.getD q 0 = t at *
                have hct : wr.cell? ⟨w.heap.size, t, none⟩ = some (.int .i64 (g t)) := hr7.cell (i := t) (by omega)
                have d64 : wr.cell? ⟨w.heap.size, 64, none⟩ = some (.int .i64 (c : Int)) := by rw [← hgc.out]; exact hr7.cell (i := 64) (by omega)
                have htl : (t : Int) < 64 := by omega
                have hd2 : decide ((q : Int) < (lh.length : Int)) = true := decide_eq_true (by omega)
                have hqx : (q : Int) < (lh.length : Int) := by omega
                have e2 : IntKind.i64.wrap (7 * (c : Int)) = 7 * c := IntWalk.i64_in _ (by omega)
                have hcb : -1000 ≤ 7 - 7 * (c : Int) ∧ 7 - 7 * (c : Int) ≤ 1000 := by omega
                replace hPI := Lib.hid hPI
                clear hr7
                go_upto_region 15 with (fail)
                go_cut [60] from 46 to 60 (fun x wx => (∃ b, x = .bool b) ∧ ∃ n, wx = wr.drewN n)
                case first =>
                  cases y0 : (g t != 0)
                  · go_quiet (fail)
                    go_wp2_with (fail)
                    go_meet
                    exact ⟨⟨_, rfl⟩, _, rfl⟩
                  · cases y1 : (sideOf (g t) == (c : Int))
                    all_goals
                      go_quiet ((go_at_call 38; exact q_of (sideOf_any _ _)))
                      go_wp2_with (fail)
                      go_meet
                      exact ⟨⟨_, rfl⟩, _, rfl⟩
                case rest =>
                  obtain ⟨⟨b, rfl⟩, nq2, hwc⟩ := hcut
                  have hPI2 := Lib.hid (hPI.out.drew hwc)
                  have f64 : wc.cell? ⟨w.heap.size, 64, none⟩ = some (.int .i64 (c : Int)) := by rw [hwc]; exact d64
                  clear hPI hcq hct d64 hwc
                  cases b
                  · go_upto_region 16 with (fail)
                    go_cut [72] from 61 to 72 (fun x wx => (∃ b, x = .bool b) ∧ ∃ n, wx = wc.drewN n)
                    case first =>
                      cases z0 : (K != 6)
                      · cases z1 : ((t : Int) / 8 != 7 - 7 * (c : Int))
                        all_goals
                          go_quiet (first | ((go_at_call 8; exact q_of (rank_any _ (by omega) (by omega) _))) | ((go_at_call 22; exact q_of (hkn.out _))))
                          go_wp2_with (fail)
                          go_meet
                          exact ⟨⟨_, rfl⟩, _, rfl⟩
                      · go_quiet ((go_at_call 22; exact q_of (hkn.out _)))
                        go_wp2_with (fail)
                        go_meet
                        exact ⟨⟨_, rfl⟩, _, rfl⟩
                    case rest =>
                      obtain ⟨⟨b, rfl⟩, nq3, hwc⟩ := hcut
                      have hPI3 := Lib.hid (hPI2.out.drew hwc)
                      clear hPI2 f64 hwc
                      cases b
                      · go_upto_region 19 with (fail)
                        go_loopw [3, 9] (fun out i wr => ∃ j : Nat, 2 ≤ j ∧ j ≤ 6 ∧ i = .int .i64 (j : Int) ∧ PI (w.heap.size + 1) (224 * k + 4 * q + (j - 2)) w1 (some ⟨gq, 0, none⟩) lh.length w6 out wr) (fun _ i _ => 6 - (intOf i).toNat)
                        case atStart => exact ⟨2, by omega, by omega, rfl, hPI3.out.mono (by omega)⟩
                        case round =>
                          clear hPI3
                          obtain ⟨j, hj2, hj6, rfl, hPI⟩ := hrel
                          by_cases hj : j < 6
                          · have hdj : decide ((j : Int) ≤ 5) = true := decide_eq_true (by omega)
                            obtain ⟨⟨la, hla, hll, hol⟩, hap, hB⟩ := hPI
                            replace hla := Lib.hid hla
                            replace hol := Lib.hid hol
                            replace hap := Lib.hid hap
                            replace hB := Lib.hid hB
                            go_wp2_with (at_builtin; refine wpList_appL rfl _ _ 37 rfl (w.heap.size + 1) 58 (.agg #[.int .i64 0, .int .i64 0, .int .i64 0]) 3 24 Tryd.underlying37 infoMv rfl (by decide) _ la.length (mvs la) rfl hol.out hB.out hszB [.int .i64 (k : Int), .int .i64 (t : Int), .int .i64 (j : Int)] (one_encM (k, t, j)) rfl _ rfl rfl (by omega) (by decide) ?_; intro g2 cap w8 hown8 hB8 hkp hat; have hpi := Lib.hid (PI_app (m := (k, t, j)) hla.out ⟨hlt, ht, show j ≤ 5 by omega⟩ hll hown8 hB8 hkp hat hap.out); clear hown8 hB8 hkp hat)
                            exact ⟨⟨j + 1, by omega, by omega, by go_num, hpi.out.mono (by omega)⟩, by simp [intOf]; omega⟩
                          · obtain rfl : j = 6 := by omega
                            replace hPI := Lib.hid (PI.mono (m := 224 * k + 4 * (q + 1)) hPI (by omega))
                            rw [show ((6 : Nat) : Int) = 6 from rfl]
                            go_wp2_with (fail)
                            exact ⟨⟨q + 1, by omega, by go_num, hPI.out⟩, by simp [intOf]; omega⟩
                      · obtain ⟨⟨la, hla, hll, hol⟩, hap, hB⟩ := hPI3.out
                        replace hla := Lib.hid hla
                        replace hol := Lib.hid hol
                        replace hap := Lib.hid hap
                        replace hB := Lib.hid hB
                        clear hPI3
                        go_wp2_with (at_builtin; refine wpList_appL rfl _ _ 37 rfl (w.heap.size + 1) 58 (.agg #[.int .i64 0, .int .i64 0, .int .i64 0]) 3 24 Tryd.underlying37 infoMv rfl (by decide) _ la.length (mvs la) rfl hol.out hB.out hszB [.int .i64 (k : Int), .int .i64 (t : Int), .int .i64 0] (one_encM (k, t, 0)) rfl _ rfl rfl (by omega) (by decide) ?_; intro g2 cap w8 hown8 hB8 hkp hat; have hpi := Lib.hid (PI_app (m := (k, t, 0)) hla.out ⟨hlt, ht, show 0 ≤ 5 by omega⟩ hll hown8 hB8 hkp hat hap.out); clear hown8 hB8 hkp hat)
                        exact ⟨⟨q + 1, by omega, by go_num, hpi.out.mono (by omega)⟩, by simp [intOf]; omega⟩
                  · go_wp2_with (fail)
                    exact ⟨⟨q + 1, by omega, by go_num, hPI2.out.mono (by omega)⟩, by simp [intOf]; omega⟩
              · obtain rfl : q = lh.length := by omega
                have hd2 : decide ((lh.length : Int) < (lh.length : Int)) = false := decide_eq_false (by omega)
                have hfin := Lib.hid (And.intro (hPI.1.mono (show 224 * k + 4 * lh.length ≤ 224 * (k + 1) by omega)) hPI.2.2)
                clear hPI
                go_wp2_with (fail)
                exact ⟨⟨k + 1, by go_num, by omega, hfin.out.1, hfin.out.2⟩, by simp [intOf]; omega⟩
        · go_wp2_with (fail)
          exact ⟨⟨k + 1, by go_num, by omega, ho2.out.mono (by omega), hb2.out⟩, by simp [intOf]; omega⟩
    · obtain rfl : k = 64 := by omega
      rw [show ((64 : Nat) : Int) = 64 from rfl]
      obtain ⟨la, hla, hll, hol⟩ := ho
      have hblk := Lib.hid (rowIs_block hrw)
      clear hrw
      replace hla := Lib.hid hla
      replace hol := Lib.hid hol
      replace hb := Lib.hid hb
      go_wp2_with (first
        | (go_at_call 47; refine (ordered_any _ 14338 _ _ hcat.out (by omega) ).mono ?_; rintro e w5 ⟨u5, rfl, ho5, hb5⟩)
        | (at_builtin; refine wpList_cat_mv rfl _ _ rfl (w.heap.size + 1) _ la rfl la.length rfl hol2.out (by omega) _ _ lb rfl hb23.out (by omega) ?_; intro v4 w4 ho4 hb4; have hcat := Lib.hid (show MvOwn (w.heap.size + 1) 14338 v4 w4 from ⟨la ++ lb, mv_ok_apps hla.out hlb.out, by simp; omega, ho4⟩); replace hb4 := Lib.hid ((hb2.mono hszr).trans hb4); clear ho4)
        | (go_at_call 48; refine (hCas.out _).mono ?_; rintro e w2 ⟨u2, rfl, ⟨lb, hb21, hb22, hb23⟩, hb2⟩; have hlb := Lib.hid hb21; replace hb23 := Lib.hid hb23; have hol2 := Lib.hid (own_belowI hol.out hb2); clear hb21; have hs2 := hb2.size)
        | (refine wpList_load_row rfl 24 _ rfl w.heap.size rfl _ _ (0, 0) _ hblk.out Tryd.underlying24 rfl (by rw [infoPos', rowArr_size]) ?_))
      go_ret
      have hb14 := hb.out.trans hb4.out
      have hb15 := (hBw.out.trans (hb14.mono (Nat.le_succ _)))
      exact ⟨_, rfl, ho5.weak hb15.size, hb15.trans (hb5.mono hb15.size)⟩
end Go.Proofs.YthdbgjhonnogpaaDoor

/- The rules' moves, weakly: the legal ones; which positions the laws ask of. -/
import Derived.Test.YthdbgjhonnogpaaDoorMvL
namespace Go.Proofs.YthdbgjhonnogpaaDoor
open Go.ChangeShapes Go.WideShapes Go.ChangeAt Go.RowKit Plain
set_option maxHeartbeats 1000000
set_option linter.unusedVariables false
set_option linter.unusedSimpArgs false

theorem PI.below {B n : Nat} {w1 w6 wr wc : World} {ha : Option Addr} {N : Nat} {out : Value} (h : PI B n w1 ha N w6 out wr) (hb : Below wr.heap.size wr wc) (hB : B ≤ wr.heap.size) : PI B n w1 ha N w6 out wc :=
  ⟨h.1.below hb, fun gq hq hN => ⟨(h.2.1 gq hq hN).1, (hb.block gq (h.2.1 gq hq hN).2.2).trans (h.2.1 gq hq hN).2.1, Nat.lt_of_lt_of_le (h.2.1 gq hq hN).2.2 hb.size⟩, h.2.2.trans (hb.mono hB)⟩
set_option maxRecDepth 100000 in
theorem legal_any (g : Nat → Int) (hg : BdOk g) (c : Nat) (hc1 : c ≤ 1) (hgc : g 64 = (c : Int)) (hkg : 0 ≤ kingAt g (g 64)) (w : World) :
    Calls Tryd.prog 15 #[intRow 69 g] w fun e w' => MvPost 14338 w e w' := by
  have hr := rowIs_new w 24 69 (fun i => .int .i64 (g i))
  have hBw : Below w.heap.size w (w.alloc (.cells (rowArr 69 fun i => .int .i64 (g i)) 24)) := (Below.refl _ _).alloc (Nat.le_refl _) _
  have hPs := Lib.hid (fun w => pseudo_any g hg c hc1 hgc w)
  have hKg := Lib.hid (fun w => kingAt_any g (c : Int) (by omega) (by omega) w)
  have hMd := fun (m : M3) (hm : MvOk m) w => made_any g hg c hc1 hgc m.1 m.2.1 hm.1 hm.2.1 m.2.2 hm.2.2 w
  unfold intRow at hPs hKg
  unfold intRow mvI at hMd
  replace hMd := Lib.hid hMd
  have hkr := kingAt_range g (g 64)
  rw [hgc] at hkr hkg
  generalize kingAt g (c : Int) = KI at *
  obtain ⟨n, rfl⟩ : ∃ n : Nat, KI = n := ⟨KI.toNat, by omega⟩
  have hn64 : n < 64 := by omega
  unfold intRow
  go_enter Tryd.func15, Tryd.ntmps15
  go_upto_region 2 with (fail)
  have hsz : (w.alloc (.cells (rowArr 69 fun i => .int .i64 (g i)) 24)).heap.size = w.heap.size + 1 := World.size_alloc _ _
  generalize (w.alloc (.cells (rowArr 69 fun i => .int .i64 (g i)) 24)) = w1 at *
  have hszB : w.heap.size + 1 ≤ w1.heap.size := by omega
  have hrA : ∀ wz, Below (w.heap.size + 1) w1 wz → wz.rowIs w.heap.size 24 69 (fun i => .int .i64 (g i)) := fun wz h => rowIs_below hr h (by omega)
  replace hrA := Lib.hid hrA
  replace hBw := Lib.hid hBw
  replace hgc := Lib.hid hgc
  have hblk := Lib.hid (rowIs_block hr)
  clear hr hkr hkg
  go_upto_region 4 with (first
    | (go_at_call 33; refine (hKg.out _).mono ?_; rintro e w3 ⟨rfl, hb3⟩)
    | (go_at_call 34; refine (hPs.out _).mono ?_; rintro e w2 ⟨u2, rfl, hmo2, hb2⟩; have hb2' := hb2.mono hszB; have hr2 := hrA.out _ hb2'; have d64 : w2.cell? ⟨w.heap.size, 64, none⟩ = some (.int .i64 (c : Int)) := (by rw [← hgc.out]; exact hr2.cell (i := 64) (by omega)); have hblk2 := Lib.hid (rowIs_block hr2); clear hr2 hblk)
    | (refine wpList_load_row rfl 24 _ rfl w.heap.size rfl _ _ (0, 0) _ hblk2.out Tryd.underlying24 rfl (by rw [infoPos', rowArr_size]) ?_)
    | (refine wpList_load_row rfl 24 _ rfl w.heap.size rfl _ _ (0, 0) _ hblk.out Tryd.underlying24 rfl (by rw [infoPos', rowArr_size]) ?_))
  have hs2 : w.heap.size + 1 ≤ w2.heap.size := Nat.le_trans hszB hb2.size
  have hmo3 := hmo2.below hb3
  have hb3' := hb2'.trans (hb3.mono hs2)
  obtain ⟨l, hl, hll, hol⟩ := hmo3
  obtain ⟨ha, hc, rfl, hcells⟩ := mv_cells rfl hol
  replace hl := Lib.hid hl
  replace hcells := Lib.hid hcells
  have hap0 : Apart (.slice none 0 0) ha l.length w3 w3 := fun gq hq hN => by
    obtain ⟨g2, h2, h3, h4, _⟩ := hcells.out hN
    rw [hq] at h2
    injection h2 with h2
    injection h2 with h2
    subst h2
    exact ⟨(by simp [Value.ownBlock]), rfl, h4⟩
  have hPI0 := Lib.hid (show PI (w.heap.size + 1) 0 w1 ha l.length w3 (.slice none 0 0) w3 from ⟨MvOwn.nil _ _ _, hap0, hb3'⟩)
  clear hap0 hol hmo2 hb2 hb2' hb3 hb3' d64 hblk2 hs2
  go_wp2_with (fail)
  go_loopw [3, 6] (fun out i wr => ∃ q : Nat, q ≤ l.length ∧ i = .int .i64 (q : Int) ∧ PI (w.heap.size + 1) q w1 ha l.length w3 out wr) (fun _ i _ => l.length - (intOf i).toNat)
  case atStart => exact ⟨0, by omega, rfl, hPI0.out⟩
  case round =>
    clear hPI0
    obtain ⟨q, hq, rfl, hPI⟩ := hrel
    by_cases hql : q < l.length
    · obtain ⟨gq, rfl, hgB, hgs, hcl⟩ := hcells.out (by omega)
      have hMA : MvAt l gq wr := hcl.of_block (hPI.2.1 gq rfl (by omega)).2.1
      have hgw : gq < wr.heap.size := (hPI.2.1 gq rfl (by omega)).2.2
      have hok := mv_get hl.out hql
      have f0 := hMA q hql 0 (by omega)
      have f1 := hMA q hql 1 (by omega)
      have f2 := hMA q hql 2 (by omega)
      simp only [mF, Nat.add_zero] at f0 f1 f2
      have hr7 := hrA.out _ hPI.2.2
      have d64 : wr.cell? ⟨w.heap.size, 64, none⟩ = some (.int .i64 (c : Int)) := by rw [← hgc.out]; exact hr7.cell (i := 64) (by omega)
      have hd2 : decide ((q : Int) < (l.length : Int)) = true := decide_eq_true (by omega)
      have hqx : (q : Int) < (l.length : Int) := by omega
      have hqlen := Lib.hid (show l.length ≤ 14338 from hll)
      clear hcl hMA
      generalize l.getD q m0 = m at *
      have hMm := Lib.hid (hMd.out m hok)
      obtain ⟨a, b, p⟩ := m
      simp only at f0 f1 f2 hMm
      replace hok := Lib.hid hok
      replace hPI := Lib.hid hPI
      replace hr7 := Lib.hid hr7
      have hw64 : w.heap.size < wr.heap.size := by have := hr7.out.lt; exact this
      go_upto_if 27 with (fail)
      go_cut [7] from 27 to 32 (fun x wx => (∃ t : Nat, t < 64 ∧ x = .int .i64 (t : Int)) ∧ wx = wr)
      case first =>
        go_wp2_with (fail)
        · go_meet
          exact ⟨⟨b, hok.out.2.1, rfl⟩, rfl⟩
        · go_meet
          exact ⟨⟨n, hn64, rfl⟩, rfl⟩
      case rest =>
        obtain ⟨⟨t, ht, rfl⟩, hwc⟩ := hcut
        subst hwc
        have hAt := Lib.hid (fun (g' : Nat → Int) (hg' : BdOk g') w => attacked_any g' hg' t ht (1 - (c : Int)) (by omega) (by omega) w)
        have e1 : IntKind.i64.wrap (1 - (c : Int)) = 1 - c := IntWalk.i64_in _ (by omega)
        have hlt0 : decide ((t : Int) < 0) = false := decide_eq_false (by omega)
        go_upto_region 10 with (fail)
        go_cut [48] from 33 to 48 (fun x wx => (∃ y, x = .bool y) ∧ Below wc.heap.size wc wx)
        case first =>
          have hi69 : (Tryd.prog.info? 24).map (·.size) = some (rowArr 69 fun i => Value.int .i64 (g i)).toList.length := by rw [infoPos', Array.length_toList, rowArr_size]
          have k0 : Below wc.heap.size wc wc.drew := ⟨rfl, rfl, rfl, Nat.le_refl _, fun _ _ => rfl⟩
          have hSS : ∀ wz, Below wc.heap.size wc wz → Below wc.heap.size wc wz ∧ wz.rangeAt w.heap.size 0 (rowArr 69 fun i => .int .i64 (g i)).toList ∧ wz.cell? ⟨w.heap.size, 64, none⟩ = some (.int .i64 (c : Int)) ∧ wz.cell? ⟨gq, q * 3, none⟩ = some (.int .i64 (a : Int)) ∧ wz.cell? ⟨gq, q * 3 + 1, none⟩ = some (.int .i64 (b : Int)) ∧ wz.cell? ⟨gq, q * 3 + 2, none⟩ = some (.int .i64 (p : Int)) := fun wz h =>
            ⟨h, pos_range (rowIs_below hr7.out h hw64), by rw [h.cell hw64]; exact d64, by rw [h.cell hgw]; exact f0, by rw [h.cell hgw]; exact f1, by rw [h.cell hgw]; exact f2⟩
          replace hSS := Lib.hid hSS
          replace k0 := Lib.hid k0
          clear d64 f0 f1 f2
          refine wp_region_held_drew (S := fun v => Below wc.heap.size wc v ∧ v.rangeAt w.heap.size 0 (rowArr 69 fun i => .int .i64 (g i)).toList ∧ v.cell? ⟨w.heap.size, 64, none⟩ = some (.int .i64 (c : Int)) ∧ v.cell? ⟨gq, q * 3, none⟩ = some (.int .i64 (a : Int)) ∧ v.cell? ⟨gq, q * 3 + 1, none⟩ = some (.int .i64 (b : Int)) ∧ v.cell? ⟨gq, q * 3 + 2, none⟩ = some (.int .i64 (p : Int))) (by kernel_rfl) ?_ (fun hHeld => ?_)
          · exact hSS.out _ k0.out
          (refine wpAnyH_take (i := 0) (v := ?_) rfl (by kernel_rfl) (by kernel_rfl) (by kernel_rfl) (fun _ _ _ h => h) (Or.inl ⟨by rfl, ?_⟩) (by assumption) ?_; rotate_left; · (intro w hSw; go_simp; try with_reducible rfl)); try simp only [List.getElem_toArray, List.getElem_cons_succ, List.getElem_cons_zero, Act.put, List.setIfInBounds_toArray, List.set_cons_zero, List.set_cons_succ]
          (refine wpAnyH_take (i := 1) (v := ?_) rfl (by kernel_rfl) (by kernel_rfl) (by kernel_rfl) (fun _ _ _ h => h) (Or.inl ⟨by rfl, ?_⟩) (by assumption) ?_; rotate_left; · (intro w hSw; go_simp; try with_reducible rfl)); try simp only [List.getElem_toArray, List.getElem_cons_succ, List.getElem_cons_zero, Act.put, List.setIfInBounds_toArray, List.set_cons_zero, List.set_cons_succ]
          (refine wpAnyH_take (i := 2) (v := ?_) rfl (by kernel_rfl) (by kernel_rfl) (by kernel_rfl) (fun _ _ _ h => h) (Or.inl ⟨by rfl, ?_⟩) (by assumption) ?_; rotate_left; · (intro w hSw; go_simp; try with_reducible rfl)); try simp only [List.getElem_toArray, List.getElem_cons_succ, List.getElem_cons_zero, Act.put, List.setIfInBounds_toArray, List.set_cons_zero, List.set_cons_succ]
          refine wpAnyH_take (i := 3) rfl (by kernel_rfl) (by kernel_rfl) (by kernel_rfl) (fun _ _ _ h => h) (yieldsIf_load_mid (by rfl) _ _ rfl _ _ rfl _ _ (fun w h => h.2.1) Tryd.underlying24 rfl hi69) (by assumption) ?_; try simp only [List.getElem_toArray, List.getElem_cons_succ, List.getElem_cons_zero, Act.put, List.setIfInBounds_toArray, List.set_cons_zero, List.set_cons_succ]
          (refine wpAnyH_take (i := 4) (v := ?_) rfl (by kernel_rfl) (by kernel_rfl) (by kernel_rfl) (fun _ _ _ h => h) (Or.inl ⟨by rfl, ?_⟩) (by assumption) ?_; rotate_left; · (intro w hSw; go_simp; try with_reducible rfl)); try simp only [List.getElem_toArray, List.getElem_cons_succ, List.getElem_cons_zero, Act.put, List.setIfInBounds_toArray, List.set_cons_zero, List.set_cons_succ]
          (refine wpAnyH_take (i := 5) (v := ?_) rfl (by kernel_rfl) (by kernel_rfl) (by kernel_rfl) (fun _ _ _ h => h) (Or.inl ⟨by rfl, ?_⟩) (by assumption) ?_; rotate_left; · (intro w hSw; go_simp; try with_reducible rfl)); try simp only [List.getElem_toArray, List.getElem_cons_succ, List.getElem_cons_zero, Act.put, List.setIfInBounds_toArray, List.set_cons_zero, List.set_cons_succ]
          (refine wpAnyH_take (i := 6) (v := ?_) rfl (by kernel_rfl) (by kernel_rfl) (by kernel_rfl) (fun _ _ _ h => h) (Or.inl ⟨by rfl, ?_⟩) (by assumption) ?_; rotate_left; · (intro w hSw; go_simp; try with_reducible rfl)); try simp only [List.getElem_toArray, List.getElem_cons_succ, List.getElem_cons_zero, Act.put, List.setIfInBounds_toArray, List.set_cons_zero, List.set_cons_succ]
          (refine wpAnyH_take (i := 7) (v := ?_) rfl (by kernel_rfl) (by kernel_rfl) (by kernel_rfl) (fun _ _ _ h => h) (Or.inl ⟨by rfl, ?_⟩) (by assumption) ?_; rotate_left; · (intro w hSw; go_simp; try with_reducible rfl)); try simp only [List.getElem_toArray, List.getElem_cons_succ, List.getElem_cons_zero, Act.put, List.setIfInBounds_toArray, List.set_cons_zero, List.set_cons_succ]
          (refine wpAnyH_take (i := 9) (v := ?_) rfl (by kernel_rfl) (by kernel_rfl) (by kernel_rfl) (fun _ _ _ h => h) (Or.inl ⟨by rfl, ?_⟩) (by assumption) ?_; rotate_left; · (intro w hSw; go_simp; try with_reducible rfl)); try simp only [List.getElem_toArray, List.getElem_cons_succ, List.getElem_cons_zero, Act.put, List.setIfInBounds_toArray, List.set_cons_zero, List.set_cons_succ]
          (refine wpAnyH_take (i := 10) (v := ?_) rfl (by kernel_rfl) (by kernel_rfl) (by kernel_rfl) (fun _ _ _ h => h) (Or.inl ⟨by rfl, ?_⟩) (by assumption) ?_; rotate_left; · (intro w hSw; go_simp; try with_reducible rfl)); try simp only [List.getElem_toArray, List.getElem_cons_succ, List.getElem_cons_zero, Act.put, List.setIfInBounds_toArray, List.set_cons_zero, List.set_cons_succ]
          (refine wpAnyH_take (i := 11) (v := ?_) rfl (by kernel_rfl) (by kernel_rfl) (by kernel_rfl) (fun _ _ _ h => h) (Or.inl ⟨by rfl, ?_⟩) (by assumption) ?_; rotate_left; · (intro w hSw; go_simp; try with_reducible rfl)); try simp only [List.getElem_toArray, List.getElem_cons_succ, List.getElem_cons_zero, Act.put, List.setIfInBounds_toArray, List.set_cons_zero, List.set_cons_succ]
          (refine wpAnyH_take (i := 12) (v := ?_) rfl (by kernel_rfl) (by kernel_rfl) (by kernel_rfl) (fun _ _ _ h => h) (Or.inl ⟨by rfl, ?_⟩) (by assumption) ?_; rotate_left; · (intro w hSw; go_simp; try with_reducible rfl)); try simp only [List.getElem_toArray, List.getElem_cons_succ, List.getElem_cons_zero, Act.put, List.setIfInBounds_toArray, List.set_cons_zero, List.set_cons_succ]
          refine wpAnyH_ready (rs := [8]) (by kernel_rfl) (by simp) ?_; refine AllReadyH.cons rfl (fun K hK => ?_) AllReadyH.nil; go_simp
          refine (hMm.out _).mono ?_
          rintro e w5 ⟨g', hg', rfl, hb5⟩
          refine hK.out _ _ (hSS.out _ (hHeld.1.trans (hb5.mono hHeld.1.size))) (fun hHeld => ?_); clear hK K; try simp only [List.getElem_toArray, List.getElem_cons_succ, List.getElem_cons_zero, Act.put, List.setIfInBounds_toArray, List.set_cons_zero, List.set_cons_succ]
          refine wpAnyH_ready (rs := [13]) (by kernel_rfl) (by simp) ?_; refine AllReadyH.cons rfl (fun K hK => ?_) AllReadyH.nil; go_simp
          refine (hAt.out g' hg' _).mono ?_
          rintro e w6 ⟨rfl, hb6⟩
          refine hK.out _ _ (hSS.out _ (hHeld.1.trans (hb6.mono hHeld.1.size))) (fun hHeld => ?_); clear hK K; try simp only [List.getElem_toArray, List.getElem_cons_succ, List.getElem_cons_zero, Act.put, List.setIfInBounds_toArray, List.set_cons_zero, List.set_cons_succ]
          (refine wpAnyH_take (i := 14) (v := ?_) rfl (by kernel_rfl) (by kernel_rfl) (by kernel_rfl) (fun _ _ _ h => h) (Or.inl ⟨by rfl, ?_⟩) (by assumption) ?_; rotate_left; · (intro w hSw; go_simp; try with_reducible rfl)); try simp only [List.getElem_toArray, List.getElem_cons_succ, List.getElem_cons_zero, Act.put, List.setIfInBounds_toArray, List.set_cons_zero, List.set_cons_succ]
          (refine wpAnyH_take (i := 15) (v := ?_) rfl (by kernel_rfl) (by kernel_rfl) (by kernel_rfl) (fun _ _ _ h => h) (Or.inl ⟨by rfl, ?_⟩) (by assumption) ?_; rotate_left; · (intro w hSw; go_simp; try with_reducible rfl)); try simp only [List.getElem_toArray, List.getElem_cons_succ, List.getElem_cons_zero, Act.put, List.setIfInBounds_toArray, List.set_cons_zero, List.set_cons_succ]
          refine wpAnyH_done (by kernel_rfl) ?_ _
          go_wp2_with (fail)
          go_meet
          exact ⟨⟨_, rfl⟩, hHeld.1⟩
        case rest =>
          obtain ⟨⟨y, rfl⟩, hBc⟩ := hcut
          have hPI2 := hPI.out.below hBc (by omega)
          rw [← hBc.cell (show (⟨gq, q * 3, none⟩ : Addr).block < _ from hgw)] at f0
          rw [← hBc.cell (show (⟨gq, q * 3 + 1, none⟩ : Addr).block < _ from hgw)] at f1
          rw [← hBc.cell (show (⟨gq, q * 3 + 2, none⟩ : Addr).block < _ from hgw)] at f2
          clear hPI hBc d64 hr7 hAt hMm hPs hKg hMd
          cases y
          · replace hPI2 := Lib.hid hPI2
            clear f0 f1 f2
            go_wp2_with (fail)
            exact ⟨⟨q + 1, by omega, by go_num, hPI2.out.mono (by omega)⟩, by simp [intOf]; omega⟩
          · obtain ⟨⟨la, hla, hlla, hola⟩, hap, hB⟩ := hPI2
            replace hla := Lib.hid hla
            replace hola := Lib.hid hola
            replace hap := Lib.hid hap
            replace hB := Lib.hid hB
            go_wp2_with (at_builtin; refine wpList_appL rfl _ _ 37 rfl (w.heap.size + 1) 58 (.agg #[.int .i64 0, .int .i64 0, .int .i64 0]) 3 24 Tryd.underlying37 infoMv rfl (by decide) _ la.length (mvs la) rfl hola.out hB.out hszB [.int .i64 (a : Int), .int .i64 (b : Int), .int .i64 (p : Int)] (one_encM (a, b, p)) rfl _ rfl rfl (by omega) (by decide) ?_; intro g2 cap w8 hown8 hB8 hkp hat; have hpi := Lib.hid (PI_app (m := (a, b, p)) hla.out hok.out hlla hown8 hB8 hkp hat hap.out); clear hown8 hB8 hkp hat)
            exact ⟨⟨q + 1, by omega, by go_num, hpi.out⟩, by simp [intOf]; omega⟩
    · obtain rfl : q = l.length := by omega
      have hd2 : decide ((l.length : Int) < (l.length : Int)) = false := decide_eq_false (by omega)
      obtain ⟨⟨l', h1, h2, h3⟩, _, hB⟩ := hPI
      have hfin := Lib.hid (show MvOwn w.heap.size 14338 u3 wr ∧ Below w.heap.size w wr from ⟨⟨l', h1, by omega, own_weaker h3 (Nat.le_succ _)⟩, hBw.out.trans (hB.mono (Nat.le_succ _))⟩)
      clear h3 hB h1
      go_wp2_with (fail)
      go_ret
      exact ⟨_, rfl, hfin.out.1, hfin.out.2⟩
/-- Which positions the laws of moves ask of. -/
def RightP (g : Nat → Int) (e : Ending) : Prop := ∃ y : Bool, e = .returned (.bool y) ∧ (y = true → VG g ∧ g 67 ≤ 10000 ∧ g 68 ≤ 10000)
set_option maxRecDepth 100000 in
theorem mvRight_any (g : Nat → Int) (w : World) :
    Calls Tryd.prog 5 #[intRow 69 g] w fun e w' => RightP g e ∧ Below w.heap.size w w' := by
  have hr := rowIs_new w 24 69 (fun i => .int .i64 (g i))
  have hBw : Below w.heap.size w (w.alloc (.cells (rowArr 69 fun i => .int .i64 (g i)) 24)) := (Below.refl _ _).alloc (Nat.le_refl _) _
  have hV := Lib.hid (fun w => valid_any g w)
  unfold intRow at hV
  unfold intRow
  go_enter Tryd.func5, Tryd.ntmps5
  go_upto_region 1 with (fail)
  generalize (w.alloc (.cells (rowArr 69 fun i => .int .i64 (g i)) 24)) = w1 at *
  have hblk := Lib.hid (rowIs_block hr)
  have hwl := hr.lt
  have c67 : w1.cell? ⟨w.heap.size, 67, none⟩ = some (.int .i64 (g 67)) := hr.cell (i := 67) (by omega)
  have hrr : ∀ wz, Below w1.heap.size w1 wz → wz.rowIs w.heap.size 24 69 (fun i => .int .i64 (g i)) := fun wz h => rowIs_below hr h hwl
  replace hrr := Lib.hid hrr
  clear hr c67
  go_wp2_with (first
    | (go_at_call 14; fail)
    | (refine wpList_load_row rfl 24 _ rfl w.heap.size rfl _ _ (0, 0) _ hblk.out Tryd.underlying24 rfl (by rw [infoPos', rowArr_size]) ?_))
  refine (hV.out _).mono ?_
  rintro e w2 ⟨⟨y, rfl, hy⟩, hb2⟩
  have hr2 := hrr.out _ hb2
  have c67 : w2.cell? ⟨w.heap.size, 67, none⟩ = some (.int .i64 (g 67)) := hr2.cell (i := 67) (by omega)
  have c68 : w2.cell? ⟨w.heap.size, 68, none⟩ = some (.int .i64 (g 68)) := hr2.cell (i := 68) (by omega)
  have hblk2 := Lib.hid (rowIs_block hr2)
  have hb3 := hBw.trans (hb2.mono hBw.size)
  clear hr2 hblk hrr hV hBw hb2
  cases y
  · clear hy
    go_wp2_with (fail)
    go_ret
    exact ⟨⟨_, rfl, fun h => by cases h⟩, hb3⟩
  · have hy := hy rfl
    have hyh := Lib.hid hy
    obtain ⟨c, hc1, hgc⟩ : ∃ c : Nat, c ≤ 1 ∧ g 64 = (c : Int) := by
      rcases hy.turn with h | h
      · exact ⟨0, by omega, h⟩
      · exact ⟨1, by omega, h⟩
    have hk : 0 ≤ kingAt g (g 64) := by
      rcases hy.turn with h | h
      · rw [h]; exact hy.kings.1
      · rw [h]; exact hy.kings.2
    have hL := Lib.hid (fun w => legal_any g hy.board c hc1 hgc hk w)
    unfold intRow at hL
    clear hy hk hgc
    cases z0 : decide (g 67 ≤ 10000)
    · go_wp2_with (fail)
      go_ret
      exact ⟨⟨_, rfl, fun h => by cases h⟩, hb3⟩
    · cases z1 : decide (g 68 ≤ 10000)
      · go_wp2_with (fail)
        go_ret
        exact ⟨⟨_, rfl, fun h => by cases h⟩, hb3⟩
      · have hres := Lib.hid (show VG g ∧ g 67 ≤ 10000 ∧ g 68 ≤ 10000 from ⟨hyh.out, of_decide_eq_true z0, of_decide_eq_true z1⟩)
        go_wp2_with (first
          | (go_at_call 15; refine (hL.out _).mono ?_; rintro e w4 ⟨u4, rfl, ⟨l4, _, hl4, ho4⟩, hb4⟩; obtain ⟨a4, c4, rfl, hcl4⟩ := mv_cells rfl ho4; clear hcl4 ho4)
          | (refine wpList_unguard (by rfl) (wpList_load_row rfl 24 _ rfl w.heap.size rfl _ _ (0, 0) _ hblk2.out Tryd.underlying24 rfl (by rw [infoPos', rowArr_size]) ?_)))
        go_ret
        exact ⟨⟨_, rfl, fun _ => hres.out⟩, hb3.trans (hb4.mono hb3.size)⟩
end Go.Proofs.YthdbgjhonnogpaaDoor

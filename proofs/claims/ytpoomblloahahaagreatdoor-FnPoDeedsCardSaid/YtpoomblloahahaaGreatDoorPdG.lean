/- The law FnPoDeeds walks. -/
import Derived.Test.YtpoomblloahahaaGreatDoorPdGc
namespace Go.Proofs.YtpoomblloahahaaGreatDoor
open Go.Proofs Go.Shelf Go.Sort Go.Lib Go.ChangeShapes Go.WideShapes Go.ChangeAt Go.RowKit Go.PlainAid
set_option maxHeartbeats 30000000
set_option linter.unusedVariables false
set_option linter.unusedSimpArgs false

/-- What the law's loop over the deeds keeps. -/
structure LawR (W : World) (wb : Nat) (A : List En) (ds : List Dd) (k : Nat) (va : Value) (wr : World) : Prop where
  own : wr.ownsRow W.heap.size 30 4 va (bkD A ds k).length (ents (bkD A ds k))
  uq : Uniq (bkD A ds k)
  want : ∃ F : Nat → Bool, wr.rowIs wb 4 ds.length (fun i => .bool (F i)) ∧ ∀ i, i < k → (ds.getD i d0).1 = 2 → F i = doneD (bkD A ds i) (ds.getD i d0)
  ok : ∀ i, i < k → DdOk (ds.getD i d0)
  bl : RowKit.Below W.heap.size W wr
  wbs : W.heap.size ≤ wb
theorem LawR.below {W : World} {wb : Nat} {A : List En} {ds : List Dd} {k : Nat} {va : Value} {wr w' : World} (h : LawR W wb A ds k va wr) (hb : RowKit.Below wr.heap.size wr w') : LawR W wb A ds k va w' := by
  obtain ⟨h1, h2, ⟨F, h3, h4⟩, h5, h6, h7⟩ := h
  exact ⟨own_below h1 hb, h2, ⟨F, rowIs_below h3 hb h3.lt, h4⟩, h5, h6.trans (hb.mono h6.size), h7⟩
/-- The next deed. -/
theorem LawR.next {W : World} {wb : Nat} {A : List En} {ds : List Dd} {k : Nat} {va va' : Value} {wr wr' : World} (hk : k < ds.length) (h : LawR W wb A ds k va wr)
    (hown : wr'.ownsRow W.heap.size 30 4 va' (bkD A ds (k + 1)).length (ents (bkD A ds (k + 1)))) (hn : (ds.getD k d0).1 = 1 → ∀ i, i < (bkD A ds k).length → hitE (ds.getD k d0).2.1 (codeD (ds.getD k d0)) ((bkD A ds k).getD i e0) = false) (hok : DdOk (ds.getD k d0))
    (F F' : Nat → Bool) (hF : ∀ i, i < k → (ds.getD i d0).1 = 2 → F i = doneD (bkD A ds i) (ds.getD i d0)) (hw' : wr'.rowIs wb 4 ds.length (fun i => .bool (F' i))) (hs : ∀ i, i < k → F' i = F i) (hk2 : (ds.getD k d0).1 = 2 → F' k = doneD (bkD A ds k) (ds.getD k d0)) (hb : RowKit.Below W.heap.size W wr') : LawR W wb A ds (k + 1) va' wr' := by
  refine ⟨hown, by rw [bkD_succ _ _ _ hk]; exact uniq_doD h.uq _ hn, ⟨F', hw', fun i hi h2 => ?_⟩, fun i hi => ?_, hb, h.wbs⟩
  · by_cases e : i = k
    · subst e; exact hk2 h2
    · rw [hs i (by omega)]; exact hF i (by omega) h2
  · by_cases e : i = k
    · subst e; exact hok
    · exact h.ok i (by omega)
theorem want_set {w : World} {wb n : Nat} {T : TypeId} {F : Nat → Bool} (h : w.rowIs wb T n (fun i => .bool (F i))) (k : Nat) (b : Bool) : (w.setCell ⟨wb, k, none⟩ (.bool b)).rowIs wb T n (fun i => .bool (if i = k then b else F i)) :=
  (h.set k (.bool b)).congr fun j hj => by
    by_cases e : j = k
    · simp [e]
    · simp [e]
set_option maxRecDepth 100000 in
theorem deeds_in (v vd : Value) (L : List UInt8) (ds : List Dd) (hL : L.length ≤ 640) (h16 : L.length % 16 = 0) (hds : ds.length ≤ 12) (W : World) (hD : DataAt W v L) (hE : DeedsAt W vd ds) (hT : TabB W) :
    Calls Tryz.prog 3 #[v, vd] W fun e w' => e = .returned (.bool true) ∧ RowKit.Below W.heap.size W w' := by
  have hr := Lib.hid (poRead_any v L W hD (by omega))
  have hbook := Lib.hid (fun (hok : ∀ d ∈ ds, DdOk d) (w : World) (hb : RowKit.Below W.heap.size W w) => bookDeeds_yes v vd L ds hL h16 hds hok w (hD.below hb) (hE.below hb) (hT.below hb))
  clear hT
  obtain ⟨a, c, rfl, hx1, hx2⟩ := hD
  clear hx1 hx2
  obtain ⟨da, dc, rfl, hE⟩ := hE
  have hd : decide ((2147483647 : Int) < (L.length : Int)) = false := by simp; omega
  have hd2 : decide ((2147483647 : Int) < (ds.length : Int)) = false := by simp; omega
  have ht : (L.length : Int).tmod 16 = 0 := by rw [Int.tmod_eq_emod_of_nonneg (by omega)]; omega
  have f1 : decide ((640 : Int) < (L.length : Int)) = false := by simp; omega
  have f3 : decide ((12 : Int) < (ds.length : Int)) = false := by simp; omega
  have hAl := readL_len L (L.length / 16)
  have hA40 : L.length / 16 ≤ 40 := by omega
  generalize hA : readL L (L.length / 16) = A at *
  go_enter Tryz.func3, Tryz.ntmps3
  go_wp2_with (fail)
  refine hr.out.mono ?_
  rintro e w1 ⟨u, rfl, ho, hb1⟩
  rw [← hAl] at ho
  clear hA
  replace hA40 : A.length ≤ 40 := by omega
  replace hAl := Lib.hid hAl
  have hEn := ens_own ho
  obtain ⟨ua, uc, rfl, hcells⟩ := hEn
  go_wp2_with (fail)
  go_loopw [6] (fun i wr => ∃ k : Nat, k ≤ A.length ∧ i = .int .i64 (k : Int) ∧ UniqB A k ∧ RowKit.Below w1.heap.size w1 wr) (fun i _ => A.length - (intOf i).toNat)
  case atStart => exact ⟨0, by omega, rfl, fun a b _ h => absurd h (by omega), RowKit.Below.refl _ _⟩
  case round =>
    obtain ⟨k, hk, rfl, hU, kB⟩ := hrel
    by_cases hlt : k < A.length
    · obtain ⟨g, rfl, hg, hc⟩ := hcells (by omega)
      clear hcells
      have hd : decide ((k : Int) < (A.length : Int)) = true := decide_eq_true (by omega)
      have ck0 := hc k hlt 0 (by omega)
      have ck1 := hc k hlt 1 (by omega)
      have hc0 := Lib.hid (fun j (hj : j < A.length) => hc j hj 0 (by omega))
      have hc1 := Lib.hid (fun j (hj : j < A.length) => hc j hj 1 (by omega))
      clear hc
      go_wp2_with (fail)
      go_loopw [7] (fun j wy => ∃ q : Nat, q ≤ k ∧ j = .int .i64 (q : Int) ∧ (∀ a, a < q → ¬ sameE (A.getD a e0) (A.getD k e0)) ∧ RowKit.Below w1.heap.size w1 wy) (fun j _ => k - (intOf j).toNat)
      case atStart => exact ⟨0, by omega, rfl, fun a h => absurd h (by omega), kB⟩
      case round =>
        obtain ⟨q, hq, rfl, hN, kB⟩ := hrel
        by_cases hqk : q < k
        · have hd2 : decide ((q : Int) < (k : Int)) = true := decide_eq_true (by omega)
          have g0 := hc0.out q (by omega)
          have g1 := hc1.out q (by omega)
          have n0 := (kB.cell (show (⟨g, k * 4 + 0, none⟩ : Addr).block < w1.heap.size from hg)).trans ck0
          have n1 := (kB.cell (show (⟨g, k * 4 + 1, none⟩ : Addr).block < w1.heap.size from hg)).trans ck1
          have n2 := (kB.cell (show (⟨g, q * 4 + 0, none⟩ : Addr).block < w1.heap.size from hg)).trans g0
          have n3 := (kB.cell (show (⟨g, q * 4 + 1, none⟩ : Addr).block < w1.heap.size from hg)).trans g1
          have hN2 : ¬ sameE (A.getD q e0) (A.getD k e0) → ∀ a, a < q + 1 → ¬ sameE (A.getD a e0) (A.getD k e0) := fun h a ha => by
            by_cases e : a = q
            · subst e; exact h
            · exact hN a (by omega)
          replace hN2 := Lib.hid hN2
          clear g0 g1 hN
          generalize A.getD k e0 = x at *
          generalize A.getD q e0 = y at *
          simp only [enF, Nat.add_zero] at n0 n1 n2 n3
          go_upto_region 12 with (fail)
          cases e1 : (x.1 == y.1)
          · go_quiet (fail)
            go_wp2_with (fail)
            exact ⟨⟨q + 1, by omega, by go_num, hN2.out (fun h => by have := h.1; simp [this] at e1), kB.trans ⟨rfl, rfl, rfl, Nat.le_refl _, fun _ _ => rfl⟩⟩, by simp [intOf]; omega⟩
          · cases e2 : (x.2.1 == y.2.1)
            · go_quiet (fail)
              go_wp2_with (fail)
              exact ⟨⟨q + 1, by omega, by go_num, hN2.out (fun h => by have := h.2; simp [this] at e2), kB.trans ⟨rfl, rfl, rfl, Nat.le_refl _, fun _ _ => rfl⟩⟩, by simp [intOf]; omega⟩
            · go_quiet (fail)
              go_wp2_with (fail)
              go_ret
              exact ⟨rfl, (hb1.trans (kB.mono hb1.size)).trans ⟨rfl, rfl, rfl, Nat.le_refl _, fun _ _ => rfl⟩⟩
        · obtain rfl : q = k := by omega
          have hd2 : decide ((q : Int) < (q : Int)) = false := decide_eq_false (by omega)
          go_wp2_with (fail)
          exact ⟨⟨q + 1, by omega, by go_num, hU.succ hN, kB⟩, by simp [intOf]; omega⟩
    · obtain rfl : k = A.length := by omega
      have hd : decide ((A.length : Int) < (A.length : Int)) = false := decide_eq_false (by omega)
      clear hcells
      have hown := own_below ho kB
      have hbW := hb1.trans (kB.mono hb1.size)
      have hsW : W.heap.size ≤ wr.heap.size := hbW.size
      replace hU : Uniq A := hU
      clear ho kB hb1 hlt hk
      go_upto_region 14 with (fail)
      obtain ⟨i2, hi2, hz2, hs2, hb2⟩ := info_parts infoBool
      go_wp2_with (at_make; refine wpList_make_row _ rfl _ _ _ rfl 4 i2 (.bool false) Tryz.underlying31 hi2 hz2 hs2 rfl .i64 .i64 ds.length rfl rfl (by rw [hb2]; omega) (by omega) ?_)
      have kW := World.rowIs_made wr (.bool false) ds.length 4
      have kO := hown.alloc (.cells (madeCells #[.bool false] ds.length) 4)
      have kB := hbW.alloc hsW (.cells (madeCells #[.bool false] ds.length) 4)
      have hR0 : LawR W wr.heap.size A ds 0 (.slice ua A.length uc) (wr.alloc (.cells (madeCells #[.bool false] ds.length) 4)) := ⟨kO, hU, ⟨fun _ => false, kW, fun i hi => absurd hi (by omega)⟩, fun i hi => absurd hi (by omega), kB, hsW⟩
      clear kW kO kB hown hbW hU hd f1 f3 ht hr
      generalize wr.alloc (.cells (madeCells #[.bool false] ds.length) 4) = w3 at *
      generalize wr.heap.size = wb at *
      clear wr hsW hd2
      go_loopw [5, 9] (fun va i wr => ∃ k : Nat, k ≤ ds.length ∧ i = .int .i64 (k : Int) ∧ LawR W wb A ds k va wr) (fun _ i _ => ds.length - (intOf i).toNat)
      case atStart => exact ⟨0, by omega, rfl, hR0⟩
      case round =>
        clear hR0
        obtain ⟨k, hk, rfl, hR⟩ := hrel
        by_cases hlt : k < ds.length
        · obtain ⟨g, o, rfl, hg, hc⟩ := hE (by omega)
          have hsucc := bkD_succ A ds k hlt
          have hbll := bkD_len A ds k (by omega)
          have hcl := fun j (hj : j < 6) => (hR.bl.cell (show (⟨g, o + k * 6 + j, none⟩ : Addr).block < W.heap.size from hg)).trans (hc k hlt j hj)
          have hnext := fun va' wr' => LawR.next (va' := va') (wr' := wr') hlt hR
          generalize ds.getD k d0 = d at *
          obtain ⟨kd, ky, fr, tt, pr, wt⟩ := d
          have c0 := hcl 0 (by omega)
          have c1 := hcl 1 (by omega)
          have c2 := hcl 2 (by omega)
          have c3 := hcl 3 (by omega)
          have c4 := hcl 4 (by omega)
          have c5 := hcl 5 (by omega)
          simp only [ddF, Nat.add_zero] at c0 c1 c2 c3 c4 c5
          clear hcl hc hE
          have hd : decide ((k : Int) < (ds.length : Int)) = true := decide_eq_true (by omega)
          go_upto_region 19 with (fail)
          have hV := (row_lit wr #[.int .i64 kd, .int .u64 ky, .int .i64 fr, .int .i64 tt, .int .i64 pr, .int .u16 wt] 35).congr (g := ddF (kd, ky, fr, tt, pr, wt)) (fun j hj => by (have hj : j < 6 := hj); (have : j = 0 ∨ j = 1 ∨ j = 2 ∨ j = 3 ∨ j = 4 ∨ j = 5 := (by omega)); rcases this with rfl | rfl | rfl | rfl | rfl | rfl <;> rfl)
          have hR4 := hR.below ((RowKit.Below.refl _ _).alloc (Nat.le_refl _) (.cells #[.int .i64 kd, .int .u64 ky, .int .i64 fr, .int .i64 tt, .int .i64 pr, .int .u16 wt] 35))
          have hEsz : W.heap.size ≤ wr.heap.size := hR.bl.size
          clear c0 c1 c2 c3 c4 c5 hR
          generalize wr.alloc (.cells #[.int .i64 kd, .int .u64 ky, .int .i64 fr, .int .i64 tt, .int .i64 pr, .int .u16 wt] 35) = w4 at *
          replace hV : VarD wr.heap.size (kd, ky, fr, tt, pr, wt) w4 := hV
          generalize wr.heap.size = Es at *
          clear wr hd
          replace hsucc := Lib.hid hsucc
          replace hnext := Lib.hid hnext
          obtain ⟨y0, y1, y2, y3, y4, y5⟩ := hV.cells
          simp only at y0 y1 y2 y3 y4 y5
          have hbl := Lib.hid hR4.bl
          refine test19 _ Es kd ky fr tt pr wt w4 _ _ _ _ _ _ _ _ _ _ _ _ _ _ _ _ _ _ _ _ _ _ _ _ _ _ _ _ _ _ _ _ _ _ _ _ _ _ _ _ _ _ _ _ _ _ _ _ _ _ _ _ _ _ _ _ _ _ _ _ _ _ _ _ _ _ _ _ _ _ _ _ _ _ _ _ _ _ _ _ _ _ _ _ _ _ _ _ _ _ _ _ _ _ _ _ _ _ _ _ _ _ _ _ _ _ _ _ _ _ _ _ _ _ _ _ _ _ _ _ _ _ _ _ _ _ _ _ _ _ _ _ _ _ _ _ _ _ _ _ _ _ _ _ _ _ _ _ _ _ _ _ _ _ _ _ _ _ _ _ _ _ _ _ _ _ _ _ _ _ _ _ _ _ _ _ _ _ _ _ _ _ _ _ _ _ _ _ _ _ _ _ _ _ _ _ _ _ _ _ _ _ _ _ _ _ _ _ _ _ _ _ _ _ _ _ _ _ _ _ _ _ _ _ _ _ _ _ _ _ _ _ _ _ _ _ _ _ _ _ _ _ _ _ _ _ _ _ _ _ _ _ _ _ _ _ _ _ _ _ _ _ _ _ _ _ _ _ _ _ _ _ _ _ _ _ _ _ _ _ _ _ _ _ _ _ _ _ _ _ _ _ _ _ _ y0 y2 y3 y4 ?_
          intro u92 u93 u94 u95 u96 u97 u98 u99 u100 u101 u102 u103 u104 u105 u106 u107 u108 u109 u110 u111 u112 u113 u114 u115 u116 u117 u118 u119 u120 u121 u122 u123 u124 u125 u126 u127 u128 u129 u130 u131 u132 u133 u134 u135 u136 u137 u138 u139 u140 u141 u142 u143 u144 u145 u146 u147 u148 u149 u150 u151 u152
          cases hbd : badD (kd, ky, fr, tt, pr, wt)
          · have hok := ok_of_badD hbd
            have hcode : codeD (kd, ky, fr, tt, pr, wt) = tt + 64 * fr + 4096 * polP pr := rfl
            generalize codeD (kd, ky, fr, tt, pr, wt) = code at *
            replace hcode := Lib.hid hcode
            obtain ⟨hk3, h1, h2, h3⟩ := id hok
            simp only at hk3 h1 h2 h3
            clear hbd
            go_upto_region 21 with (fail)
            go_cut [11] from 154 to 169 (fun x wx => x = .int .u16 code ∧ RowKit.Below w4.heap.size w4 wx)
            case first =>
              clear hbook hnext hsucc hbl hbll hV hR4
              have hpp : pr = 0 ∨ pr = 2 ∨ pr = 3 ∨ pr = 4 ∨ pr = 5 := by omega
              rcases hpp with rfl | rfl | rfl | rfl | rfl
              · have hix : ∀ w, Sem.run Tryz.prog (Instr.index 37 (.agg #[.int .i64 0, .int .i64 0, .int .i64 4, .int .i64 3, .int .i64 2, .int .i64 1]) (.int .i64 0)) w = .ok (.int .i64 0) w := fun _ => by kernel_rfl
                go_quiet (fail)
                go_wp2_with (fail)
                go_meet
                refine ⟨?_, ⟨rfl, rfl, rfl, Nat.le_refl _, fun _ _ => rfl⟩⟩
                rw [code_law fr tt _ h1 h2 (by omega) (by omega) (by omega), hcode.out]
                rfl
              · have hix : ∀ w, Sem.run Tryz.prog (Instr.index 37 (.agg #[.int .i64 0, .int .i64 0, .int .i64 4, .int .i64 3, .int .i64 2, .int .i64 1]) (.int .i64 2)) w = .ok (.int .i64 4) w := fun _ => by kernel_rfl
                go_quiet (fail)
                go_wp2_with (fail)
                go_meet
                refine ⟨?_, ⟨rfl, rfl, rfl, Nat.le_refl _, fun _ _ => rfl⟩⟩
                rw [code_law fr tt _ h1 h2 (by omega) (by omega) (by omega), hcode.out]
                rfl
              · have hix : ∀ w, Sem.run Tryz.prog (Instr.index 37 (.agg #[.int .i64 0, .int .i64 0, .int .i64 4, .int .i64 3, .int .i64 2, .int .i64 1]) (.int .i64 3)) w = .ok (.int .i64 3) w := fun _ => by kernel_rfl
                go_quiet (fail)
                go_wp2_with (fail)
                go_meet
                refine ⟨?_, ⟨rfl, rfl, rfl, Nat.le_refl _, fun _ _ => rfl⟩⟩
                rw [code_law fr tt _ h1 h2 (by omega) (by omega) (by omega), hcode.out]
                rfl
              · have hix : ∀ w, Sem.run Tryz.prog (Instr.index 37 (.agg #[.int .i64 0, .int .i64 0, .int .i64 4, .int .i64 3, .int .i64 2, .int .i64 1]) (.int .i64 4)) w = .ok (.int .i64 2) w := fun _ => by kernel_rfl
                go_quiet (fail)
                go_wp2_with (fail)
                go_meet
                refine ⟨?_, ⟨rfl, rfl, rfl, Nat.le_refl _, fun _ _ => rfl⟩⟩
                rw [code_law fr tt _ h1 h2 (by omega) (by omega) (by omega), hcode.out]
                rfl
              · have hix : ∀ w, Sem.run Tryz.prog (Instr.index 37 (.agg #[.int .i64 0, .int .i64 0, .int .i64 4, .int .i64 3, .int .i64 2, .int .i64 1]) (.int .i64 5)) w = .ok (.int .i64 1) w := fun _ => by kernel_rfl
                go_quiet (fail)
                go_wp2_with (fail)
                go_meet
                refine ⟨?_, ⟨rfl, rfl, rfl, Nat.le_refl _, fun _ _ => rfl⟩⟩
                rw [code_law fr tt _ h1 h2 (by omega) (by omega) (by omega), hcode.out]
                rfl
            case rest =>
              obtain ⟨rfl, hbx⟩ := hcut
              have hV5 : VarD Es (kd, ky, fr, tt, pr, wt) wc := rowIs_below hV hbx hV.lt
              have hR5 := hR4.below hbx
              clear hbx hV hR4 hbl y0 y1 y2 y3 y4 y5
              obtain ⟨ma, mc, rfl, hcm⟩ := ens_own hR5.own
              have hml : (bkD A ds k).length ≤ 60 := by omega
              generalize hmm : bkD A ds k = m at *
              go_wp2_with (fail)
              go_loopw [12, 13] (fun x i wr => ∃ q : Nat, q ≤ m.length ∧ i = .int .i64 (q : Int) ∧ AtI m ky code q x ∧ RowKit.Below wc.heap.size wc wr) (fun _ i _ => m.length - (intOf i).toNat)
              case atStart => exact ⟨0, by omega, rfl, .inl ⟨rfl, fun i h => absurd h (by omega)⟩, RowKit.Below.refl _ _⟩
              case round =>
                obtain ⟨q, hq, rfl, hAt, kB⟩ := hrel
                have hV6 : VarD Es (kd, ky, fr, tt, pr, wt) wr := rowIs_below hV5 kB hV5.lt
                obtain ⟨y0, y1, y2, y3, y4, y5⟩ := hV6.cells
                simp only at y0 y1 y2 y3 y4 y5
                by_cases hql : q < m.length
                · obtain ⟨mg, rfl, hmg, hmc⟩ := hcm (by omega)
                  have hd : decide ((q : Int) < (m.length : Int)) = true := decide_eq_true (by omega)
                  have n0 := (kB.cell (show (⟨mg, q * 4 + 0, none⟩ : Addr).block < wc.heap.size from hmg)).trans (hmc q hql 0 (by omega))
                  have n1 := (kB.cell (show (⟨mg, q * 4 + 1, none⟩ : Addr).block < wc.heap.size from hmg)).trans (hmc q hql 1 (by omega))
                  have hyes : hitE ky code (m.getD q e0) = true → AtI m ky code (q + 1) (.int .i64 (q : Int)) := fun h => .inr ⟨q, by omega, rfl, h⟩
                  have hno : hitE ky code (m.getD q e0) = false → AtI m ky code (q + 1) u12 := fun h => by
                    rcases hAt with ⟨hx, hn⟩ | ⟨j, hj, hx, hh⟩
                    · exact .inl ⟨hx, fun i hi => by
                        by_cases e : i = q
                        · subst e; exact h
                        · exact hn i (by omega)⟩
                    · exact .inr ⟨j, by omega, hx, hh⟩
                  replace hyes := Lib.hid hyes
                  replace hno := Lib.hid hno
                  clear hAt hmc
                  generalize m.getD q e0 = x at *
                  simp only [enF, Nat.add_zero] at n0 n1
                  clear y0 y2 y3 y4 y5
                  go_upto_region 26 with (fail)
                  cases k1 : (x.1 == ky)
                  · replace hno := Lib.hid (hno.out (by simp [hitE, k1]))
                    clear hyes
                    go_quiet (fail)
                    go_wp2_with (fail)
                    exact ⟨⟨q + 1, by omega, by go_num, hno.out, kB.trans ⟨rfl, rfl, rfl, Nat.le_refl _, fun _ _ => rfl⟩⟩, by simp [intOf]; omega⟩
                  · cases k2 : (x.2.1 == code)
                    · replace hno := Lib.hid (hno.out (by simp [hitE, k2]))
                      clear hyes
                      go_quiet (fail)
                      go_wp2_with (fail)
                      exact ⟨⟨q + 1, by omega, by go_num, hno.out, kB.trans ⟨rfl, rfl, rfl, Nat.le_refl _, fun _ _ => rfl⟩⟩, by simp [intOf]; omega⟩
                    · replace hyes := Lib.hid (hyes.out (by simp [hitE, k1, k2]))
                      clear hno
                      go_quiet (fail)
                      go_wp2_with (fail)
                      exact ⟨⟨q + 1, by omega, by go_num, hyes.out, kB.trans ⟨rfl, rfl, rfl, Nat.le_refl _, fun _ _ => rfl⟩⟩, by simp [intOf]; omega⟩
                · obtain rfl : q = m.length := by omega
                  have hd : decide ((m.length : Int) < (m.length : Int)) = false := decide_eq_false (by omega)
                  have hR6 := hR5.below kB
                  have hnx := Lib.hid (fun va' wr' => hnext.out va' wr')
                  have hblx := Lib.hid hR6.bl
                  have ho6 := hR6.own
                  obtain ⟨Fw, hFw, hFo⟩ := hR6.want
                  have huq := hR6.uq
                  have hws := hR6.wbs
                  have hEw : wb ≠ Es := fun e => by
                    have h1 := rowIs_block hFw
                    rw [e, rowIs_block hV6] at h1
                    simp at h1
                  have hbl6 := hR6.bl
                  have hEl : Es < wr.heap.size := hV6.lt
                  clear hV5 hR5 hR6 hql hq kB hV6 hnext
                  rw [hmm] at ho6 huq
                  replace hmm := Lib.hid hmm
                  have hd1 : doD m (1, ky, fr, tt, pr, wt) = m ++ [(ky, code, wt, 0)] := by rw [hcode.out]; rfl
                  have hd2 : doD m (2, ky, fr, tt, pr, wt) = m.map (updE ky code wt) := by rw [hcode.out]; rfl
                  have hd3 : doD m (3, ky, fr, tt, pr, wt) = offL ky m := rfl
                  have hn2 : doneD m (2, ky, fr, tt, pr, wt) = m.any (hitE ky code) := by rw [hcode.out]; rfl
                  replace hd1 := Lib.hid hd1
                  replace hd2 := Lib.hid hd2
                  replace hd3 := Lib.hid hd3
                  replace hn2 := Lib.hid hn2
                  replace hFo := Lib.hid hFo
                  replace hok := Lib.hid hok
                  clear hcode
                  have hWsz := hbl6.size
                  have hix : (k : Int) < (ds.length : Int) := by omega
                  have xw := hFw.cell (i := k) hlt
                  have xf := hFw.frozen k
                  rcases hk3 with rfl | rfl | rfl
                  · rcases hAt with ⟨rfl, hnone⟩ | ⟨j, hj, rfl, hhit⟩
                    · have hone := one_enc (ky, code, wt, 0)
                      unfold encE at hone
                      have hml2 : m.length < 1000000000 := by omega
                      have bW := rowIs_block hFw
                      have hx : ∀ (v : Value) (wz : World), wz.ownsRow W.heap.size 30 4 v (m.length + 1) (ents m ++ [.int .u64 ky, .int .u16 code, .int .u16 wt, .int .u32 0]) → wz.ownsRow W.heap.size 30 4 v (m ++ [(ky, code, wt, 0)]).length (ents (m ++ [(ky, code, wt, 0)])) := fun v wz h => by
                        rw [ents_app, List.length_append]; exact h
                      replace hx := Lib.hid hx
                      replace hnone := Lib.hid hnone
                      clear hcm xw xf
                      go_wp2_with (at_builtin; refine wpList_app2 rfl _ _ 24 rfl W.heap.size 30 (.agg #[.int .u64 0, .int .u16 0, .int .u16 0, .int .u32 0]) 4 16 Tryz.underlying24 infoEn rfl (by decide) (.slice ma m.length mc) m.length (ents m) rfl ho6 hWsz [.int .u64 ky, .int .u16 code, .int .u16 wt, .int .u32 0] hone rfl wr.heap.size rfl rfl hml2 (by decide) ?_; intro va vn vc w7 hown7 hb7 hkp; have hFw7 := rowIs_of_block (hkp wb _ _ bW (by decide)); have xw := hFw7.cell (i := k) hlt; have xf := hFw7.frozen k; have hO7 := Lib.hid (hx.out _ _ hown7); have hB7 := Lib.hid (hbl6.trans hb7); clear hown7 hb7 hkp hx hone bW)
                      refine ⟨⟨k + 1, by omega, by go_num, hnx.out _ _ ?_ (fun _ => hnone.out) hok.out Fw (fun i => if i = k then true else Fw i) hFo.out (want_set hFw7 k true) (fun i hi => by rw [if_neg (by omega)]) (fun h => absurd h (by omega)) (hB7.out.setCell (p := ⟨wb, k, none⟩) hws _)⟩, by simp [intOf]; omega⟩
                      rw [hsucc.out, hd1.out]
                      exact own_kept (p := fun q => q = wb) hO7.out ⟨rfl, rfl, rfl, by simp, fun q hq hne => Below.heap_setCell _ _ _ _ (by simpa using hne)⟩ (fun q hq cc hcc => by (have := rowIs_block hFw7); (rw [hq] at hcc); (rw [this] at hcc); cases hcc)
                    · have hdj : decide ((0 : Int) ≤ (j : Int)) = true := decide_eq_true (by omega)
                      go_wp2_with (fail)
                      go_ret
                      exact ⟨rfl, hblx.out⟩
                  · rcases hAt with ⟨rfl, hnone⟩ | ⟨j, hj, rfl, hhit⟩
                    · have hany := Lib.hid (any_of_none hnone)
                      have hmp := Lib.hid (map_none (wt := wt) hnone)
                      clear hcm hnone
                      have hOw := Lib.hid (own_kept (p := fun q => q = wb) ho6 (⟨rfl, rfl, rfl, by simp, fun q hq hne => Below.heap_setCell _ _ _ _ (by simpa using hne)⟩ : KeptBut (fun q => q = wb) wr (wr.setCell ⟨wb, k, none⟩ (.bool false))) (fun q hq cc hcc => by (have := rowIs_block hFw); (rw [hq] at hcc); (rw [this] at hcc); cases hcc))
                      go_wp2_with (fail)
                      refine ⟨⟨k + 1, by omega, by go_num, hnx.out _ _ ?_ (fun h => absurd h (by omega)) hok.out Fw (fun i => if i = k then false else Fw i) hFo.out (want_set hFw k false) (fun i hi => by rw [if_neg (by omega)]) (fun h => by rw [if_pos rfl, hn2.out, hany.out]) (hblx.out.setCell (p := ⟨wb, k, none⟩) hws _)⟩, by simp [intOf]; omega⟩
                      rw [hsucc.out, hd2.out, hmp.out]
                      exact hOw.out
                    · have hany := Lib.hid (any_of_hit hj hhit)
                      obtain ⟨mg, rfl, hmg, hmc⟩ := hcm (by omega)
                      clear hmc
                      have hdj : decide ((0 : Int) ≤ (j : Int)) = true := decide_eq_true (by omega)
                      go_upto_region 36 with (fail)
                      have hO8 := own_kept (p := fun q => q = wb) ho6 (⟨rfl, rfl, rfl, by simp, fun q hq hne => Below.heap_setCell _ _ _ _ (by simpa using hne)⟩ : KeptBut (fun q => q = wb) wr (wr.setCell ⟨wb, k, none⟩ (.bool true))) (fun q hq cc hcc => by (have := rowIs_block hFw); (rw [hq] at hcc); (rw [this] at hcc); cases hcc)
                      have hF8 := want_set hFw k true
                      have hB8 := hblx.out.setCell (p := ⟨wb, k, none⟩) hws (.bool true)
                      have z5 : (wr.setCell ⟨wb, k, none⟩ (.bool true)).cell? ⟨Es, 5, none⟩ = some (.int .u16 wt) := by rw [World.cell?_setCell_far _ _ _ _ hEw]; exact y5
                      clear ho6 hFw hbl6 y0 y1 y2 y3 y4 y5 xw xf hcm
                      generalize wr.setCell ⟨wb, k, none⟩ (.bool true) = w8 at *
                      obtain ⟨a9, c9, hv9, hE9⟩ := ens_own hO8
                      obtain ⟨g9, e9, hlt9, hc9⟩ := hE9 (by omega)
                      injection hv9 with e7 _ _
                      subst e7
                      injection e9 with e9
                      injection e9 with e9
                      subst e9
                      obtain ⟨cur, hBg, hblk⟩ : ∃ cur : Array Value, W.heap.size ≤ mg ∧ w8.heap[mg]? = some (.cells cur 30 (0, 0)) := by
                        rcases hO8.2 with ⟨hv, _⟩ | ⟨g', cap, cur, hv, hB, hg', _⟩
                        · cases hv
                        · injection hv with e1 _ _
                          injection e1 with e1
                          injection e1 with e1
                          subst e1
                          exact ⟨cur, hB, hg'⟩
                      have hgw : wb ≠ mg := fun e => by
                        have h1 := rowIs_block hF8
                        rw [e, hblk] at h1
                        simp at h1
                      have c2 := hc9 j hj 2 (by omega)
                      have cf : w8.frozen? ⟨mg, j * 4 + 2, none⟩ = false := by simp [World.frozen?, hblk]
                      have hjx : (j : Int) < (m.length : Int) := by omega
                      have hOn := Lib.hid (own_one (wt := wt) huq hj rfl hO8 hblk hhit hc9)
                      have hFn := Lib.hid (hF8.setOther (a := ⟨mg, j * 4 + 2, none⟩) hgw (.int .u16 wt))
                      have hBn := Lib.hid (hB8.setCell (p := ⟨mg, j * 4 + 2, none⟩) hBg (.int .u16 wt))
                      clear hO8 hF8 hB8 hblk hc9 hlt9 hhit
                      go_wp2_with (fail)
                      refine ⟨⟨k + 1, by omega, by go_num, hnx.out _ _ ?_ (fun h => absurd h (by omega)) hok.out Fw (fun i => if i = k then true else Fw i) hFo.out hFn.out (fun i hi => by rw [if_neg (by omega)]) (fun h => by rw [if_pos rfl, hn2.out, hany.out]) hBn.out⟩, by simp [intOf]; omega⟩
                      rw [hsucc.out, hd2.out, List.length_map]
                      exact hOn.out
                  · clear hAt
                    go_wp2_with (fail)
                    generalize wr = wo at *
                    go_loopw [14, 15] (fun x i wy => ∃ q : Nat, q ≤ m.length ∧ i = .int .i64 (q : Int) ∧ wy.ownsRow wo.heap.size 30 4 x (offL ky (m.take q)).length (ents (offL ky (m.take q))) ∧ RowKit.Below wo.heap.size wo wy) (fun _ i _ => m.length - (intOf i).toNat)
                    case atStart => exact ⟨0, by omega, rfl, World.ownsRow_nil _ _ _ _, RowKit.Below.refl _ _⟩
                    case round =>
                      obtain ⟨q, hq, rfl, ho, kB⟩ := hrel
                      by_cases hql : q < m.length
                      · obtain ⟨a9, c9, hv9, hE9⟩ := ens_own ho6
                        obtain ⟨mg, e9, hmg, hmc⟩ := hE9 (by omega)
                        injection hv9 with e7 _ _
                        rw [e9] at e7
                        subst e7
                        clear hE9 e9 hcm
                        have hd : decide ((q : Int) < (m.length : Int)) = true := decide_eq_true (by omega)
                        have hs := offL_succ m ky q hql
                        have hle := offL_le (m.take q) ky
                        have hle2 : (m.take q).length ≤ q := by simp; omega
                        have z1 := (kB.cell (show (⟨Es, 1, none⟩ : Addr).block < wo.heap.size from hEl)).trans y1
                        have n0 := (kB.cell (show (⟨mg, q * 4 + 0, none⟩ : Addr).block < wo.heap.size from hmg)).trans (hmc q hql 0 (by omega))
                        have n1 := (kB.cell (show (⟨mg, q * 4 + 1, none⟩ : Addr).block < wo.heap.size from hmg)).trans (hmc q hql 1 (by omega))
                        have n2 := (kB.cell (show (⟨mg, q * 4 + 2, none⟩ : Addr).block < wo.heap.size from hmg)).trans (hmc q hql 2 (by omega))
                        have n3 := (kB.cell (show (⟨mg, q * 4 + 3, none⟩ : Addr).block < wo.heap.size from hmg)).trans (hmc q hql 3 (by omega))
                        have hqx : (q : Int) < (m.length : Int) := by omega
                        clear hmc y0 y1 y2 y3 y4 y5 xw xf
                        generalize m.getD q e0 = x at *
                        simp only [enF, Nat.add_zero] at n0 n1 n2 n3
                        generalize hF : offL ky (m.take q) = F at *
                        clear hF
                        go_upto_region 43 with (fail)
                        cases hd9 : (x.1 != ky)
                        · rw [hd9, if_neg (by simp), List.append_nil] at hs
                          replace hs := Lib.hid hs
                          replace ho := Lib.hid ho
                          clear hle hle2
                          go_quiet (fail)
                          go_wp2_with (fail)
                          exact ⟨⟨q + 1, by omega, by go_num, by rw [hs.out]; exact own_below ho.out ⟨rfl, rfl, rfl, Nat.le_refl _, fun _ _ => rfl⟩, kB.trans ⟨rfl, rfl, rfl, Nat.le_refl _, fun _ _ => rfl⟩⟩, by simp [intOf]; omega⟩
                        · rw [hd9, if_pos rfl] at hs
                          have hx : ∀ (v : Value) (w2 : World), w2.ownsRow wo.heap.size 30 4 v (F.length + 1) (ents F ++ [.int .u64 x.1, .int .u16 x.2.1, .int .u16 x.2.2.1, .int .u32 x.2.2.2]) → w2.ownsRow wo.heap.size 30 4 v (offL ky (m.take (q + 1))).length (ents (offL ky (m.take (q + 1)))) := fun v w2 h => by
                            rw [hs, ents_app, List.length_append]; exact h
                          replace hx := Lib.hid hx
                          replace hs := Lib.hid hs
                          have hone := one_enc x
                          unfold encE at hone
                          have hk2 : F.length < 1000000000 := by omega
                          go_quiet (fail)
                          generalize hwq : wr.drewN _ = wq at *
                          have kbq : RowKit.Below wr.heap.size wr wq := by rw [← hwq]; exact ⟨rfl, rfl, rfl, Nat.le_refl _, fun _ _ => rfl⟩
                          have ho2 := own_below ho kbq
                          have kB2 : RowKit.Below wo.heap.size wo wq := by rw [← hwq]; exact kB.trans ⟨rfl, rfl, rfl, Nat.le_refl _, fun _ _ => rfl⟩
                          have hmr : mg < wr.heap.size := Nat.lt_of_lt_of_le hmg kB.size
                          replace n0 := (kbq.cell (show (⟨mg, q * 4, none⟩ : Addr).block < wr.heap.size from hmr)).trans n0
                          replace n1 := (kbq.cell (show (⟨mg, q * 4 + 1, none⟩ : Addr).block < wr.heap.size from hmr)).trans n1
                          replace n2 := (kbq.cell (show (⟨mg, q * 4 + 2, none⟩ : Addr).block < wr.heap.size from hmr)).trans n2
                          replace n3 := (kbq.cell (show (⟨mg, q * 4 + 3, none⟩ : Addr).block < wr.heap.size from hmr)).trans n3
                          clear hwq kbq ho kB z1 hle hle2
                          go_wp2_with (at_builtin; refine wpList_app rfl _ _ 24 rfl wo.heap.size 30 (.agg #[.int .u64 0, .int .u16 0, .int .u16 0, .int .u32 0]) 4 16 Tryz.underlying24 infoEn rfl (by decide) _ F.length (ents F) rfl ho2 kB2 (Nat.le_refl _) [.int .u64 x.1, .int .u16 x.2.1, .int .u16 x.2.2.1, .int .u32 x.2.2.2] hone rfl wq.heap.size rfl rfl hk2 (by decide) ?_; intro v' w2 hown2 hb2 hnil; have hown3 := Lib.hid (hx.out _ _ hown2); have hb3 := Lib.hid hb2; clear hown2 hb2 hnil ho2 kB2 hx hone)
                          exact ⟨⟨q + 1, by omega, by go_num, hown3.out, hb3.out⟩, by simp [intOf]; omega⟩
                      · obtain rfl : q = m.length := by omega
                        rw [List.take_length] at ho
                        have hd : decide ((m.length : Int) < (m.length : Int)) = false := decide_eq_false (by omega)
                        have hFw2 := rowIs_below hFw kB hFw.lt
                        have hB2 := hbl6.trans (kB.mono hWsz)
                        have ho2 := Lib.hid (own_weak ho hWsz)
                        clear ho kB hFw y0 y1 y2 y3 y4 y5 xw xf hcm ho6
                        go_wp2_with (fail)
                        refine ⟨⟨k + 1, by omega, by go_num, hnx.out _ _ ?_ (fun h => absurd h (by omega)) hok.out Fw Fw hFo.out hFw2 (fun i hi => rfl) (fun h => absurd h (by omega)) hB2⟩, by simp [intOf]; omega⟩
                        rw [hsucc.out, hd3.out]
                        exact ho2.out
          · go_wp2_with (fail)
            go_ret
            exact ⟨rfl, hbl.out⟩
        · obtain rfl : k = ds.length := by omega
          have hbk := Lib.hid (hbook.out (fun d hd => by
            obtain ⟨i, hi, rfl⟩ := List.getElem_of_mem hd
            have h := hR.ok i hi
            rw [List.getD_eq_getElem?_getD, List.getElem?_eq_getElem hi] at h
            exact h) wr hR.bl)
          clear hbook
          have hbll := bkD_len A ds ds.length (Nat.le_refl _)
          have hd : decide ((ds.length : Int) < (ds.length : Int)) = false := decide_eq_false (by omega)
          go_wp2_with (fail)
          refine hbk.out.mono ?_
          rintro e w5 ⟨u, x, rfl, l, hEl, hp, hBs, hb5⟩
          have hR5 := hR.below hb5
          have hEa := ens_own hR5.own
          have hll : l.length ≤ 1000 := by have := hp.length_eq; omega
          have hps := Lib.hid (poSame_any u u5 l (bkD A ds ds.length) w5 hEl hEa hp hll)
          obtain ⟨xa, xc, rfl, hxc⟩ := hBs
          obtain ⟨Fw, hFw, hFo⟩ := hR5.want
          have hbl5 := hR5.bl
          have hwlt := hFw.lt
          have hdl := dnD_len A ds ds.length
          have hdn := dnD_get A ds ds.length
          rw [hdl] at hxc
          clear hR hR5 hEl hEa hp hb5 hbk hll hbll
          generalize dnD A ds ds.length = bs at *
          have hne : ((ds.length : Int) != (ds.length : Int)) = false := by simp
          go_wp2_with (go_at_call 6; refine hps.out.mono ?_; rintro e w6 ⟨rfl, hb6⟩; clear hps)
          have hblw := hbl5.trans (hb6.mono hbl5.size)
          have hFw6 := rowIs_below hFw hb6 hFw.lt
          have hcell : ∀ q, q < ds.length → ∃ (g o xg : Nat) (kd : Int) (b1 b2 : Bool), da = some ⟨g, o, none⟩ ∧ xa = some ⟨xg, 0, none⟩ ∧ g < w6.heap.size ∧ xg < w6.heap.size ∧ wb < w6.heap.size ∧ w6.cell? ⟨g, o + q * 6, none⟩ = some (.int .i64 kd) ∧ w6.cell? ⟨xg, q, none⟩ = some (.bool b1) ∧ w6.cell? ⟨wb, q, none⟩ = some (.bool b2) ∧ (kd = 2 → b1 = b2) := fun q hql => by
            obtain ⟨g, o, hda, hg, hc⟩ := hE (by omega)
            obtain ⟨xg, hxa, hxg, hxb⟩ := hxc (by omega)
            have n0 := (hblw.cell (show (⟨g, o + q * 6 + 0, none⟩ : Addr).block < W.heap.size from hg)).trans (hc q hql 0 (by omega))
            have n1 := (hb6.cell (show (⟨xg, q, none⟩ : Addr).block < w5.heap.size from hxg)).trans (hxb q hql)
            have n2 := hFw6.cell (i := q) hql
            exact ⟨g, o, xg, _, _, _, hda, hxa, Nat.lt_of_lt_of_le hg hblw.size, Nat.lt_of_lt_of_le hxg hb6.size, hFw6.lt, n0, n1, n2, fun h => by rw [hdn q hql, hFo q hql h]⟩
          refine loop11 _ _ _ ds.length _ _ wb (by omega) w6 _ _ _ _ _ _ _ _ _ _ _ _ _ _ _ _ _ _ _ _ _ _ _ _ _ _ _ _ _ _ _ _ _ _ _ _ _ _ _ _ _ _ _ _ _ _ _ _ _ _ _ _ _ _ _ _ _ _ _ _ _ _ _ _ _ _ _ _ _ _ _ _ _ _ _ _ _ _ _ _ _ _ _ _ _ _ _ _ _ _ _ _ _ _ _ _ _ _ _ _ _ _ _ _ _ _ _ _ _ _ _ _ _ _ _ _ _ _ _ _ _ _ _ _ _ _ _ _ _ _ _ _ _ _ _ _ _ _ _ _ _ _ _ _ _ _ _ _ _ _ _ _ _ _ _ _ _ _ _ _ _ _ _ _ _ _ _ _ _ _ _ _ _ _ _ _ _ _ _ _ _ _ _ _ _ _ _ _ _ _ _ _ _ _ _ _ _ _ _ _ _ _ _ _ _ _ _ _ _ _ _ _ _ _ _ _ _ _ _ _ _ _ _ _ _ _ _ _ _ _ _ _ _ _ _ _ _ _ _ _ _ _ _ _ _ _ _ _ _ _ _ _ _ _ _ _ _ _ _ _ _ _ _ _ _ _ _ _ _ _ _ _ _ _ _ _ _ _ _ _ _ _ _ _ _ _ _ _ _ _ _ _ hcell ?_
          intro u4 u19 u273 u274 u275 u276 u277 u278 u279 u280 u281 u282 u283 u284 u285 u286 u287 u288 u289 u290 u291 u292 u293 u294 u295 w7 hb7
          have hfin := Lib.hid (hblw.trans (hb7.mono hblw.size))
          clear hcell
          go_wp2_with (fail)
          go_ret
          exact ⟨rfl, hfin.out⟩
end Go.Proofs.YtpoomblloahahaaGreatDoor

/- The rules' moves, weakly: moves put in order. -/
import Derived.Test.YthdbgjhonnogpaaDoorMvI
import Derived.Laws.AppendOwnNone
import Derived.Laws.OwnMore
namespace Go.Proofs.YthdbgjhonnogpaaDoor
open Go.ChangeShapes Go.WideShapes Go.ChangeAt Go.RowKit Plain
set_option maxHeartbeats 1000000
set_option linter.unusedVariables false
set_option linter.unusedSimpArgs false

/-- 'append' of one slice of moves to another. -/
theorem wpList_cat_mv {ops : Array Oper} {rest : List Oper} {o : Oper} {ac : Act} {w : World} {Q : Exit → Act → World → Prop} (hgd : o.guard = none) (s x : Operand) (ho : o.op = .call { callee := .builtin .append, args := #[s, x], argTypes := #[37, 37] })
    (B : Nat) (v0 : Value) (l0 : List M3) (hs : ac.eval s = v0) (n0 : Nat) (hn0 : n0 = l0.length) (hown : w.ownsRow B 58 3 v0 n0 (mvs l0)) (hB : B ≤ w.heap.size) (B1 : Nat) (vv : Value) (l : List M3) (hx : ac.eval x = vv) (hT : w.ownsRow B1 58 3 vv l.length (mvs l)) (hn : l0.length + l.length ≤ 1000000)
    (h : ∀ v' w', w'.ownsRow B 58 3 v' (l0 ++ l).length (mvs (l0 ++ l)) → Below B w w' → wpList Tryd.prog ops Q rest (ac.put o.dst v') w') : wpList Tryd.prog ops Q (o :: rest) ac w := by
  subst hn0
  obtain ⟨i0, hi, hz0, hz1, hz2⟩ := info_parts infoMv
  rcases hT.2 with ⟨rfl, hl0⟩ | ⟨g, cap, cur, rfl, hg, hgc, hc1, hc2, hc3, hc4⟩
  · refine wpList_append_own_none hgd s x 37 ho B 58 i0 3 Tryd.underlying37 hi v0 _ _ hs hown hx ?_
    have : l = [] := List.eq_nil_of_length_eq_zero (by first | exact hl0 | exact hl0.1 | omega)
    subst this
    exact h v0 w (by simpa [mvs] using hown) (Below.refl _ _)
  · refine wpList_append_own w hgd s x 37 ho B 58 i0 (.agg #[.int .i64 0, .int .i64 0, .int .i64 0]) 3 24 Tryd.underlying37 hi hz0 hz1 hz2 rfl (by decide) v0 _ _ hs hown ⟨g, 0, none⟩ l.length cap (mvs l) hx (mvs_len l) (fun j u hj => ?_) (fun u hu => ?_) (by unfold maxLen; omega) (by omega) hB ?_
    · have hjl : j < l.length * 3 := by
        have := (List.getElem?_eq_some_iff.1 hj).1
        rw [mvs_len] at this; exact this
      rw [show (⟨g, 0, none⟩ : Addr).add j = ⟨g, 0 + j, none⟩ from Addr.add_mid g 0 j, Nat.zero_add, hT.cellAt j hjl]
      exact hj
    · simp only [mvs, List.mem_flatMap] at hu
      obtain ⟨m, _, hm⟩ := hu
      exact one_encM m u hm
    · intro v' w' hown' hgr _
      exact h v' w' (by rw [List.length_append, mvs_apps]; exact hown') ⟨hgr.os, hgr.tape, hgr.output, hgr.size, fun k hk => hgr.block k (by omega) (fun e => by have := (hown.lt k e.symm).1; omega)⟩
theorem set3_mvs (m : M3) : ∀ (l : List M3) (k : Nat), (((mvs l).set (k * 3) (mF m 0)).set (k * 3 + 1) (mF m 1)).set (k * 3 + 2) (mF m 2) = mvs (l.set k m)
  | [], k => by simp [mvs]
  | x :: r, 0 => by simp [mvs, encM, mF]
  | x :: r, k + 1 => by
    have e : mvs (x :: r) = encM x ++ mvs r := rfl
    have e2 : mvs ((x :: r).set (k + 1) m) = encM x ++ mvs (r.set k m) := rfl
    rw [e, e2, ← set3_mvs m r k, show (k + 1) * 3 = k * 3 + 3 by omega]
    rfl
theorem mv_ok_set {l : List M3} {k : Nat} {m : M3} (h1 : ∀ x ∈ l, MvOk x) (hm : MvOk m) : ∀ x ∈ l.set k m, MvOk x := fun x hx => by
  rcases List.mem_or_eq_of_mem_set hx with h | h
  · exact h1 x h
  · subst h; exact hm
theorem own_empty (w : World) : (w.alloc (.cells #[] 58)).ownsRow w.heap.size 58 3 (.slice (some ⟨w.heap.size, 0, none⟩) 0 0) 0 (mvs []) :=
  World.ownsRow_lit w #[] 0 (Nat.le_refl _) (by unfold maxLen; omega) (by rfl)
/-- Two moves are stored, one after the other. -/
def two (w : World) (gq i j : Nat) (x y : M3) : World :=
  ((((((w.setCell ⟨gq, i * 3, none⟩ (.int .i64 (x.1 : Int))).setCell ⟨gq, i * 3 + 1, none⟩ (.int .i64 (x.2.1 : Int))).setCell ⟨gq, i * 3 + 2, none⟩ (.int .i64 (x.2.2 : Int))).setCell ⟨gq, j * 3, none⟩ (.int .i64 (y.1 : Int))).setCell ⟨gq, j * 3 + 1, none⟩ (.int .i64 (y.2.1 : Int))).setCell ⟨gq, j * 3 + 2, none⟩ (.int .i64 (y.2.2 : Int))).drew
theorem two_own {B gq N cc : Nat} {l : List M3} {w : World} (ho : w.ownsRow B 58 3 (.slice (some ⟨gq, 0, none⟩) N cc) N (mvs l)) (i j : Nat) (x y : M3) :
    (two w gq i j x y).ownsRow B 58 3 (.slice (some ⟨gq, 0, none⟩) N cc) N (mvs ((l.set i x).set j y)) := by
  have h := ((((((ho.stored (i * 3) (mF x 0)).1.stored (i * 3 + 1) (mF x 1)).1.stored (i * 3 + 2) (mF x 2)).1.stored (j * 3) (mF y 0)).1.stored (j * 3 + 1) (mF y 1)).1.stored (j * 3 + 2) (mF y 2)).1
  rw [set3_mvs, set3_mvs] at h
  exact h.drew
theorem two_below {B gq : Nat} {w0 w : World} (h : Below B w0 w) (hg : B ≤ gq) (i j : Nat) (x y : M3) : Below B w0 (two w gq i j x y) :=
  ((((((h.setCell (p := ⟨gq, i * 3, none⟩) hg _).setCell (p := ⟨gq, i * 3 + 1, none⟩) hg _).setCell (p := ⟨gq, i * 3 + 2, none⟩) hg _).setCell (p := ⟨gq, j * 3, none⟩) hg _).setCell (p := ⟨gq, j * 3 + 1, none⟩) hg _).setCell (p := ⟨gq, j * 3 + 2, none⟩) hg _).drew
set_option maxRecDepth 100000 in
theorem ordered_any (B n : Nat) (u : Value) (w : World) (hu : MvOwn B n u w) (hn : n ≤ 100000) :
    Calls Tryd.prog 47 #[u] w fun e w' => MvPost n w e w' := by
  obtain ⟨l, hl1, hl2, hl3⟩ := hu
  have hl3' := hl3.alloc (.cells #[] 58)
  have hem := own_empty w
  go_enter Tryd.func47, Tryd.ntmps47
  go_upto_region 2 with (at_builtin; refine wpList_cat_mv rfl _ _ rfl w.heap.size _ [] rfl 0 rfl hem (by simp) B u l rfl hl3' (by simp; omega) ?_; intro v' w1 ho1 hb1)
  rw [List.nil_append] at ho1
  have hbw : Below w.heap.size w w1 := ((Below.refl _ _).alloc (Nat.le_refl _) _).trans hb1
  obtain ⟨a, cc, rfl, hcell⟩ := mv_cells rfl ho1
  have hg : 0 < l.length → ∃ gq, a = some ⟨gq, 0, none⟩ := fun h => by
    obtain ⟨gq, h1, _⟩ := hcell h
    exact ⟨gq, h1⟩
  clear hcell hb1 hem hl3' hl3
  have hN : l.length ≤ 100000 := by omega
  have hNn := Lib.hid hl2
  have hst : ∃ l' : List M3, l'.length = l.length ∧ (∀ m ∈ l', MvOk m) ∧ w1.ownsRow w.heap.size 58 3 (.slice a l.length cc) l.length (mvs l') := ⟨l, rfl, hl1, ho1⟩
  clear ho1 hl1 hl2
  generalize l.length = N at *
  go_wp2_with (fail)
  go_loopw [4] (fun i wr => ∃ k : Nat, 1 ≤ k ∧ k ≤ N + 1 ∧ i = .int .i64 (k : Int) ∧ (∃ l' : List M3, l'.length = N ∧ (∀ m ∈ l', MvOk m) ∧ wr.ownsRow w.heap.size 58 3 (.slice a N cc) N (mvs l')) ∧ Below w.heap.size w wr) (fun i _ => N + 2 - (intOf i).toNat)
  case atStart => exact ⟨1, by omega, by omega, rfl, hst, hbw⟩
  case round =>
    clear hst hbw
    obtain ⟨k, hk1, hk2, rfl, hst, hb⟩ := hrel
    by_cases hlt : k < N
    · obtain ⟨gq, rfl⟩ := hg (by omega)
      have hd : decide ((k : Int) < (N : Int)) = true := decide_eq_true (by omega)
      go_upto_region 6 with (fail)
      go_loopw [5] (fun i wr => ∃ j : Nat, j ≤ k ∧ i = .int .i64 (j : Int) ∧ (∃ l' : List M3, l'.length = N ∧ (∀ m ∈ l', MvOk m) ∧ wr.ownsRow w.heap.size 58 3 (.slice (some ⟨gq, 0, none⟩) N cc) N (mvs l')) ∧ Below w.heap.size w wr) (fun i _ => (intOf i).toNat)
      case atStart => exact ⟨k, by omega, rfl, hst, hb⟩
      case round =>
        clear hst hb
        obtain ⟨j, hj, rfl, ⟨l', hL, hok, ho⟩, hb⟩ := hrel
        by_cases hj0 : j = 0
        · subst hj0
          have hbh := Lib.hid hb
          have hoh := Lib.hid (show ∃ l' : List M3, l'.length = N ∧ (∀ m ∈ l', MvOk m) ∧ wr.ownsRow w.heap.size 58 3 (.slice (some ⟨gq, 0, none⟩) N cc) N (mvs l') from ⟨l', hL, hok, ho⟩)
          clear hb ho
          rw [show ((0 : Nat) : Int) = 0 from rfl]
          go_upto_region 6 with (fail)
          go_quiet (fail)
          have hoq := hoh.out
          have hbq := hbh.out
          replace hoq := Lib.hid hoq
          clear hoh hbh
          have hb2 : Below w.heap.size w (wr.drewN nq) := hbq.trans ⟨rfl, rfl, rfl, Nat.le_refl _, fun _ _ => rfl⟩
          replace hb2 := Lib.hid hb2
          go_wp2_with (fail)
          exact ⟨⟨k + 1, by omega, by omega, by go_num, hoq.out, hb2.out⟩, by simp [intOf]; omega⟩
        · obtain ⟨q, rfl⟩ : ∃ q, j = q + 1 := ⟨j - 1, by omega⟩
          have hd2 : decide ((0 : Int) < ((q + 1 : Nat) : Int)) = true := decide_eq_true (by omega)
          have hd3 : decide ((0 : Int) < (q : Int) + 1) = true := decide_eq_true (by omega)
          have hqN : (q : Int) < (N : Int) := by omega
          have hqN1 : (q : Int) + 1 < (N : Int) := by omega
          obtain ⟨x, hx⟩ : ∃ x, x = l'.getD q m0 := ⟨_, rfl⟩
          obtain ⟨y, hy⟩ : ∃ y, y = l'.getD (q + 1) m0 := ⟨_, rfl⟩
          have f0 := ho.cellAt (q * 3 + 0) (by omega)
          have f1 := ho.cellAt (q * 3 + 1) (by omega)
          have f2 := ho.cellAt (q * 3 + 2) (by omega)
          have h0 := ho.cellAt ((q + 1) * 3 + 0) (by omega)
          have h1 := ho.cellAt ((q + 1) * 3 + 1) (by omega)
          have h2 := ho.cellAt ((q + 1) * 3 + 2) (by omega)
          rw [mvs_get l' _ (by omega) _ (by omega), ← hx] at f0 f1 f2
          rw [mvs_get l' _ (by omega) _ (by omega), ← hy] at h0 h1 h2
          simp only [mF, Nat.add_zero] at f0 f1 f2 h0 h1 h2
          have hox : MvOk x := by rw [hx]; exact mv_get hok (by omega)
          have hoy : MvOk y := by rw [hy]; exact mv_get hok (by omega)
          obtain ⟨x0, x1, x2⟩ := x
          obtain ⟨y0, y1, y2⟩ := y
          simp only at f0 f1 f2 h0 h1 h2
          clear hx hy
          replace hox := Lib.hid hox
          replace hoy := Lib.hid hoy
          replace ho := Lib.hid ho
          replace hok := Lib.hid hok
          replace hL := Lib.hid hL
          replace hg := True.intro
          clear hd2 hj0 hd
          rw [show ((q + 1 : Nat) : Int) = (q : Int) + 1 from by omega]
          have hq0 : (0 : Int) ≤ (q : Int) + 1 := by omega
          have hwq : IntKind.i64.wrap (q : Int) = q := IntWalk.i64_in _ (by omega)
          have hqb : -1000000 ≤ (q : Int) + 1 ∧ (q : Int) + 1 ≤ 1000000 := by omega
          go_upto_region 6 with (fail)
          go_cut [29] from 16 to 29 (fun x wx => (∃ b, x = .bool b) ∧ Below wr.heap.size wr wx)
          case first =>
            have hgs : gq < wr.heap.size := (ho.out.lt gq rfl).2
            have k0 : Below wr.heap.size wr wr.drew := ⟨rfl, rfl, rfl, Nat.le_refl _, fun _ _ => rfl⟩
            have hSS : ∀ v, Below wr.heap.size wr v → v.cell? ⟨gq, q * 3, none⟩ = some (.int .i64 (x0 : Int)) ∧ v.cell? ⟨gq, q * 3 + 1, none⟩ = some (.int .i64 (x1 : Int)) ∧ v.cell? ⟨gq, q * 3 + 2, none⟩ = some (.int .i64 (x2 : Int)) ∧ v.cell? ⟨gq, (q + 1) * 3, none⟩ = some (.int .i64 (y0 : Int)) ∧ v.cell? ⟨gq, (q + 1) * 3 + 1, none⟩ = some (.int .i64 (y1 : Int)) ∧ v.cell? ⟨gq, (q + 1) * 3 + 2, none⟩ = some (.int .i64 (y2 : Int)) ∧ Below wr.heap.size wr v := fun v hv =>
              ⟨by rw [hv.cell hgs]; exact f0, by rw [hv.cell hgs]; exact f1, by rw [hv.cell hgs]; exact f2, by rw [hv.cell hgs]; exact h0, by rw [hv.cell hgs]; exact h1, by rw [hv.cell hgs]; exact h2, hv⟩
            replace hSS := Lib.hid hSS
            replace k0 := Lib.hid k0
            clear f0 f1 f2 h0 h1 h2
            have hbf := Lib.hid (fun v => before_any ((q + 1 : Nat) : Int) 0 0 0 0 0 v)
            clear hbf
            refine wp_region_held_drew (S := fun v => v.cell? ⟨gq, q * 3, none⟩ = some (.int .i64 (x0 : Int)) ∧ v.cell? ⟨gq, q * 3 + 1, none⟩ = some (.int .i64 (x1 : Int)) ∧ v.cell? ⟨gq, q * 3 + 2, none⟩ = some (.int .i64 (x2 : Int)) ∧ v.cell? ⟨gq, (q + 1) * 3, none⟩ = some (.int .i64 (y0 : Int)) ∧ v.cell? ⟨gq, (q + 1) * 3 + 1, none⟩ = some (.int .i64 (y1 : Int)) ∧ v.cell? ⟨gq, (q + 1) * 3 + 2, none⟩ = some (.int .i64 (y2 : Int)) ∧ Below wr.heap.size wr v) (by kernel_rfl) ?_ (fun hHeld => ?_)
            · exact hSS.out _ k0.out
            (refine wpAnyH_take (i := 0) (v := ?_) rfl (by kernel_rfl) (by kernel_rfl) (by kernel_rfl) (fun _ _ _ h => h) (Or.inl ⟨by rfl, ?_⟩) (by assumption) ?_; rotate_left; · (intro w hSw; go_simp; try with_reducible rfl)); try simp only [List.getElem_toArray, List.getElem_cons_succ, List.getElem_cons_zero, Act.put, List.setIfInBounds_toArray, List.set_cons_zero, List.set_cons_succ]
            (refine wpAnyH_take (i := 1) (v := ?_) rfl (by kernel_rfl) (by kernel_rfl) (by kernel_rfl) (fun _ _ _ h => h) (Or.inl ⟨by rfl, ?_⟩) (by assumption) ?_; rotate_left; · (intro w hSw; go_simp; try with_reducible rfl)); try simp only [List.getElem_toArray, List.getElem_cons_succ, List.getElem_cons_zero, Act.put, List.setIfInBounds_toArray, List.set_cons_zero, List.set_cons_succ]
            (refine wpAnyH_take (i := 2) (v := ?_) rfl (by kernel_rfl) (by kernel_rfl) (by kernel_rfl) (fun _ _ _ h => h) (Or.inl ⟨by rfl, ?_⟩) (by assumption) ?_; rotate_left; · (intro w hSw; go_simp; try with_reducible rfl)); try simp only [List.getElem_toArray, List.getElem_cons_succ, List.getElem_cons_zero, Act.put, List.setIfInBounds_toArray, List.set_cons_zero, List.set_cons_succ]
            (refine wpAnyH_take (i := 3) (v := ?_) rfl (by kernel_rfl) (by kernel_rfl) (by kernel_rfl) (fun _ _ _ h => h) (Or.inl ⟨by rfl, ?_⟩) (by assumption) ?_; rotate_left; · (intro w hSw; go_simp; try with_reducible rfl)); try simp only [List.getElem_toArray, List.getElem_cons_succ, List.getElem_cons_zero, Act.put, List.setIfInBounds_toArray, List.set_cons_zero, List.set_cons_succ]
            (refine wpAnyH_take (i := 4) (v := ?_) rfl (by kernel_rfl) (by kernel_rfl) (by kernel_rfl) (fun _ _ _ h => h) (Or.inl ⟨by rfl, ?_⟩) (by assumption) ?_; rotate_left; · (intro w hSw; go_simp; try with_reducible rfl)); try simp only [List.getElem_toArray, List.getElem_cons_succ, List.getElem_cons_zero, Act.put, List.setIfInBounds_toArray, List.set_cons_zero, List.set_cons_succ]
            (refine wpAnyH_take (i := 5) (v := ?_) rfl (by kernel_rfl) (by kernel_rfl) (by kernel_rfl) (fun _ _ _ h => h) (Or.inl ⟨by rfl, ?_⟩) (by assumption) ?_; rotate_left; · (intro w hSw; go_simp; try with_reducible rfl)); try simp only [List.getElem_toArray, List.getElem_cons_succ, List.getElem_cons_zero, Act.put, List.setIfInBounds_toArray, List.set_cons_zero, List.set_cons_succ]
            (refine wpAnyH_take (i := 6) (v := ?_) rfl (by kernel_rfl) (by kernel_rfl) (by kernel_rfl) (fun _ _ _ h => h) (Or.inl ⟨by rfl, ?_⟩) (by assumption) ?_; rotate_left; · (intro w hSw; go_simp; try with_reducible rfl)); try simp only [List.getElem_toArray, List.getElem_cons_succ, List.getElem_cons_zero, Act.put, List.setIfInBounds_toArray, List.set_cons_zero, List.set_cons_succ]
            (refine wpAnyH_take (i := 7) (v := ?_) rfl (by kernel_rfl) (by kernel_rfl) (by kernel_rfl) (fun _ _ _ h => h) (Or.inl ⟨by rfl, ?_⟩) (by assumption) ?_; rotate_left; · (intro w hSw; go_simp; try with_reducible rfl)); try simp only [List.getElem_toArray, List.getElem_cons_succ, List.getElem_cons_zero, Act.put, List.setIfInBounds_toArray, List.set_cons_zero, List.set_cons_succ]
            (refine wpAnyH_take (i := 8) (v := ?_) rfl (by kernel_rfl) (by kernel_rfl) (by kernel_rfl) (fun _ _ _ h => h) (Or.inl ⟨by rfl, ?_⟩) (by assumption) ?_; rotate_left; · (intro w hSw; go_simp; try with_reducible rfl)); try simp only [List.getElem_toArray, List.getElem_cons_succ, List.getElem_cons_zero, Act.put, List.setIfInBounds_toArray, List.set_cons_zero, List.set_cons_succ]
            (refine wpAnyH_take (i := 9) (v := ?_) rfl (by kernel_rfl) (by kernel_rfl) (by kernel_rfl) (fun _ _ _ h => h) (Or.inl ⟨by rfl, ?_⟩) (by assumption) ?_; rotate_left; · (intro w hSw; go_simp; try with_reducible rfl)); try simp only [List.getElem_toArray, List.getElem_cons_succ, List.getElem_cons_zero, Act.put, List.setIfInBounds_toArray, List.set_cons_zero, List.set_cons_succ]
            (refine wpAnyH_take (i := 10) (v := ?_) rfl (by kernel_rfl) (by kernel_rfl) (by kernel_rfl) (fun _ _ _ h => h) (Or.inl ⟨by rfl, ?_⟩) (by assumption) ?_; rotate_left; · (intro w hSw; go_simp; try with_reducible rfl)); try simp only [List.getElem_toArray, List.getElem_cons_succ, List.getElem_cons_zero, Act.put, List.setIfInBounds_toArray, List.set_cons_zero, List.set_cons_succ]
            (refine wpAnyH_take (i := 11) (v := ?_) rfl (by kernel_rfl) (by kernel_rfl) (by kernel_rfl) (fun _ _ _ h => h) (Or.inl ⟨by rfl, ?_⟩) (by assumption) ?_; rotate_left; · (intro w hSw; go_simp; try with_reducible rfl)); try simp only [List.getElem_toArray, List.getElem_cons_succ, List.getElem_cons_zero, Act.put, List.setIfInBounds_toArray, List.set_cons_zero, List.set_cons_succ]
            refine wpAnyH_ready (rs := [12]) (by kernel_rfl) (by simp) ?_; refine AllReadyH.cons rfl (fun K hK => ?_) AllReadyH.nil; go_simp
            refine (before_any _ _ _ _ _ _ _).mono ?_
            rintro e w5 ⟨⟨b, rfl⟩, hb5⟩
            refine hK.out _ _ (hSS.out _ (hHeld.2.2.2.2.2.2.trans (hb5.mono hHeld.2.2.2.2.2.2.size))) (fun hHeld => ?_); clear hK K; try simp only [List.getElem_toArray, List.getElem_cons_succ, List.getElem_cons_zero, Act.put, List.setIfInBounds_toArray, List.set_cons_zero, List.set_cons_succ]
            (refine wpAnyH_take (i := 13) (v := ?_) rfl (by kernel_rfl) (by kernel_rfl) (by kernel_rfl) (fun _ _ _ h => h) (Or.inl ⟨by rfl, ?_⟩) (by assumption) ?_; rotate_left; · (intro w hSw; go_simp; try with_reducible rfl)); try simp only [List.getElem_toArray, List.getElem_cons_succ, List.getElem_cons_zero, Act.put, List.setIfInBounds_toArray, List.set_cons_zero, List.set_cons_succ]
            refine wpAnyH_done (by kernel_rfl) ?_ _
            go_wp2_with (fail)
            go_meet
            exact ⟨⟨_, rfl⟩, hHeld.2.2.2.2.2.2⟩
          case rest =>
            obtain ⟨⟨b, rfl⟩, hBc⟩ := hcut
            have hoc := own_belowI ho.out hBc
            have hgs : gq < wr.heap.size := (ho.out.lt gq rfl).2
            have hbc := Lib.hid (hb.trans (hBc.mono hb.size))
            rw [← hBc.cell (show (⟨gq, q * 3, none⟩ : Addr).block < wr.heap.size from hgs)] at f0
            rw [← hBc.cell (show (⟨gq, q * 3 + 1, none⟩ : Addr).block < wr.heap.size from hgs)] at f1
            rw [← hBc.cell (show (⟨gq, q * 3 + 2, none⟩ : Addr).block < wr.heap.size from hgs)] at f2
            rw [← hBc.cell (show (⟨gq, (q + 1) * 3, none⟩ : Addr).block < wr.heap.size from hgs)] at h0
            rw [← hBc.cell (show (⟨gq, (q + 1) * 3 + 1, none⟩ : Addr).block < wr.heap.size from hgs)] at h1
            rw [← hBc.cell (show (⟨gq, (q + 1) * 3 + 2, none⟩ : Addr).block < wr.heap.size from hgs)] at h2
            have z0 := fun i => hoc.frozenAt i
            replace hoc := Lib.hid hoc
            clear ho hb hBc
            cases b
            · clear z0 f0 f1 f2 h0 h1 h2
              go_wp2_with (fail)
              exact ⟨⟨k + 1, by omega, by omega, by go_num, ⟨l', hL.out, hok.out, hoc.out⟩, hbc.out⟩, by simp [intOf]; omega⟩
            · have hw6 := Lib.hid (two_own hoc.out (q + 1) q (x0, x1, x2) (y0, y1, y2))
              have hb6 := Lib.hid (two_below hbc.out (hoc.out.lt gq rfl).1 (q + 1) q (x0, x1, x2) (y0, y1, y2))
              have hL6 := Lib.hid (show ((l'.set (q + 1) (x0, x1, x2)).set q (y0, y1, y2)).length = N by rw [List.length_set, List.length_set]; exact hL.out)
              have hk6 := Lib.hid (mv_ok_set (k := q) (mv_ok_set (k := q + 1) hok.out hox.out) hoy.out)
              go_upto_region 8 with (fail)
              go_region
              change Exit.inBlock 3 _ _ _ (two wc gq (q + 1) q (x0, x1, x2) (y0, y1, y2))
              generalize two wc gq (q + 1) q (x0, x1, x2) (y0, y1, y2) = w6 at *
              clear f0 f1 f2 h0 h1 h2 z0 hoc hbc
              go_wp2_with (fail)
              exact ⟨⟨q, by omega, by go_num, ⟨_, hL6.out, hk6.out, hw6.out⟩, hb6.out⟩, by simp [intOf]⟩
    · have hd : decide ((k : Int) < (N : Int)) = false := decide_eq_false (by omega)
      obtain ⟨l', hL, hok, ho⟩ := hst
      go_wp2_with (fail)
      go_ret
      exact ⟨_, rfl, ⟨l', hok, by have := hNn.out; omega, by rw [hL]; exact ho⟩, hb⟩
end Go.Proofs.YthdbgjhonnogpaaDoor

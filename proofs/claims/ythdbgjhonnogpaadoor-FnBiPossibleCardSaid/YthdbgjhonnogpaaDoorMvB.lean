/- The rules' moves, weakly: a pawn's steps. -/
import Derived.Test.YthdbgjhonnogpaaDoorMvA
import Derived.Deep.Cut
import Derived.Deep.CutRange
import Derived.Deep.AppendLies
namespace Go.Proofs.YthdbgjhonnogpaaDoor
open Go.ChangeShapes Go.WideShapes Go.ChangeAt Go.RowKit Plain
set_option maxHeartbeats 4000000
set_option linter.unusedVariables false
set_option linter.unusedSimpArgs false

/-- A slice of squares of one's own, in a walk. -/
def SqOwn (B n : Nat) (v : Value) (w : World) : Prop := ∃ l : List Nat, (∀ t ∈ l, t < 64) ∧ l.length ≤ n ∧ w.ownsRow B 3 1 v l.length (ints l)
theorem SqOwn.mono {B n m : Nat} {v : Value} {w : World} (h : SqOwn B n v w) (hm : n ≤ m) : SqOwn B m v w := by
  obtain ⟨l, h1, h2, h3⟩ := h
  exact ⟨l, h1, by omega, h3⟩
theorem SqOwn.next {B n : Nat} {v : Value} {w : World} {l : List Nat} {t : Nat} (h1 : ∀ x ∈ l, x < 64) (ht : t < 64) (h2 : l.length ≤ n) (h3 : w.ownsRow B 3 1 v (l.length + 1) (ints l ++ [.int .i64 (t : Int)])) : SqOwn B (n + 1) v w :=
  ⟨l ++ [t], fun x hx => by
    rcases List.mem_append.1 hx with hx | hx
    · exact h1 x hx
    · simp at hx; omega, by simp; omega, by simpa [ints] using h3⟩
theorem own_weaker {B B' n k : Nat} {T : TypeId} {v : Value} {xs : List Value} {w : World} (h : w.ownsRow B T k v n xs) (hB : B' ≤ B) : w.ownsRow B' T k v n xs := by
  obtain ⟨h0, h' | ⟨g, cap, cur, hv, hB2, hr⟩⟩ := h
  · exact ⟨h0, .inl h'⟩
  · exact ⟨h0, .inr ⟨g, cap, cur, hv, Nat.le_trans hB hB2, hr⟩⟩
theorem SqOwn.weak {B B' n : Nat} {v : Value} {w : World} (h : SqOwn B n v w) (hB : B' ≤ B) : SqOwn B' n v w := by
  obtain ⟨l, h1, h2, h3⟩ := h
  exact ⟨l, h1, h2, own_weaker h3 hB⟩
theorem SqOwn.block {B n : Nat} {v : Value} {w : World} (h : SqOwn B n v w) : v.ownBlock = none ∨ ∃ b, v.ownBlock = some b ∧ b < w.heap.size := by
  obtain ⟨l, _, _, ho⟩ := h
  cases hv : v.ownBlock with
  | none => exact .inl rfl
  | some b => exact .inr ⟨b, rfl, (ho.lt b hv).2⟩
theorem own_belowI {B t k n : Nat} {v : Value} {xs : List Value} {w w' : World} (h : w.ownsRow B t k v n xs) (hb : Below w.heap.size w w') : w'.ownsRow B t k v n xs := by
  obtain ⟨h0, h | ⟨g, cap, cur, hv, hB, hg, hr⟩⟩ := h
  · exact ⟨h0, .inl h⟩
  · exact ⟨h0, .inr ⟨g, cap, cur, hv, hB, (hb.block g (lt_of_block hg)).trans hg, hr⟩⟩
/-- A slice of squares for reading: the block's cells. -/
theorem ints_cells {B n : Nat} {v : Value} {l : List Nat} {w : World} (hn : n = l.length) (h : w.ownsRow B 3 1 v n (ints l)) : ∃ a c, v = .slice a n c ∧ (0 < n → ∃ gq, a = some ⟨gq, 0, none⟩ ∧ B ≤ gq ∧ gq < w.heap.size ∧ ∀ i, i < n → w.cell? ⟨gq, i, none⟩ = some (.int .i64 ((l.getD i 0 : Nat) : Int))) := by
  subst hn
  have hown := h
  rcases h.2 with ⟨hv, h0⟩ | ⟨g, cap, cur, hv, hB, hg, _⟩
  · exact ⟨none, 0, by rw [hv]; congr 1; omega, fun hp => by omega⟩
  · refine ⟨_, _, hv, fun _ => ⟨g, rfl, hB, lt_of_block hg, fun i hi => ?_⟩⟩
    subst hv
    rw [hown.cellAt i (by omega)]
    simp [ints, hi, List.getD_eq_getElem?_getD]
/-- 'append' of one element, and where the new slice lies; all other blocks stay. -/
theorem wpList_appL {P : Program} {ops : Array Oper} {rest : List Oper} {o : Oper} {a : Act} {Q : Exit → Act → World → Prop} (hgd : o.guard = none) (s x : Operand) (t : TypeId)
    (ho : o.op = .call { callee := .builtin .append, args := #[s, x], argTypes := #[t, t] })
    (base : Nat) (e : TypeId) (z : Value) (size bytes : Nat) (ht : P.underlying t = some (.slice e)) (hinfo : (P.info? e).map (fun i => (i.zero, i.size, i.bytes)) = some (some z, size, bytes)) (hzs : z.cells.size = size) (hsz : 0 < size)
    (v : Value) (n : Nat) (xs : List Value) (hs : a.eval s = v) {w0 w : World} (hown : w.ownsRow base e size v n xs) (hb : Below base w0 w) (hbase : base ≤ w0.heap.size)
    (us : List Value) (hu : ∀ u ∈ us, u.oneCell' = true) (hl : us.length = size) (g : Nat) (hg : g = w.heap.size) (hx : a.eval x = .slice (some ⟨g, 0, none⟩) 1 1) (hn : n < 1000000000) (hby : bytes ≤ 10000)
    (h : ∀ g2 cap w', w'.ownsRow base e size (.slice (some ⟨g2, 0, none⟩) (n + 1) cap) (n + 1) (xs ++ us) → Below base w0 w' → (∀ k, k < w.heap.size → v.ownBlock ≠ some k → w'.heap[k]? = w.heap[k]?) → (v.ownBlock = some g2 ∨ w.heap.size ≤ g2) → wpList P ops Q rest (a.put o.dst (.slice (some ⟨g2, 0, none⟩) (n + 1) cap)) w') : wpList P ops Q (o :: rest) a (w.alloc (.cells us.toArray e)) := by
  obtain ⟨i0, hi, hz0, hz1, hz2⟩ := info_parts hinfo
  have hmul : (n + 1) * bytes ≤ 140737488355328 := by
    have : (n + 1) * bytes ≤ 1000000000 * 10000 := Nat.mul_le_mul (by omega) hby
    omega
  refine wpList_append_lies _ hgd s x t ho base e i0 z size bytes ht hi hz0 hz1 hz2 hzs hsz v n xs hs (hown.alloc _) ⟨g, 0, none⟩ 1 1 us hx (by omega) (fun j u hj => cells_new hg j u (by simpa using hj)) hu (by omega) (by unfold maxLen; omega) hmul (by have := hb.size; simp; omega) _ rfl ?_
  intro g2 cap w' hown' hgrow hat hlt
  refine h g2 cap w' hown' ((hb.alloc (by have := hb.size; omega) _).grown hgrow (by have := hb.size; simp; omega) (fun r hr => (hown.lt r hr).1)) (fun k hk hne => ?_) ?_
  · rw [hgrow.block k (by simp; omega) (fun e2 => hne e2.symm), heap_alloc_old w _ hk]
  · rcases hat with h1 | h1
    · exact .inl h1
    · exact .inr (by simp at h1; omega)
set_option maxRecDepth 100000 in
theorem steps_any (g : Nat → Int) (hg : ∀ i, i < 64 → 0 ≤ g i ∧ g i ≤ 12) (s : Nat) (hs : s < 64) (w : World) :
    Calls Tryd.prog 20 #[intRow 69 g, .int .i64 (s : Int)] w fun e w' => SqPost 4 w e w' := by
  have hr := rowIs_new w 24 69 (fun i => .int .i64 (g i))
  have hb : Below w.heap.size w (w.alloc (.cells (rowArr 69 fun i => .int .i64 (g i)) 24)) := (Below.refl _ _).alloc (Nat.le_refl _) _
  have hc0 := sideOf_range (g s)
  have hcs := hr.cell (i := s) (by omega)
  have hhop := Lib.hid (hop_any s hs (sideOf (g s)) hc0.1 hc0.2)
  have hup := Lib.hid (up_any (sideOf (g s)) hc0.1 hc0.2)
  have hU : -1 ≤ upI (sideOf (g s)) ∧ upI (sideOf (g s)) ≤ 1 := by unfold upI; omega
  have hUd := Lib.hid (show upI (sideOf (g s)) = 1 - 2 * sideOf (g s) from rfl)
  have hsd := Lib.hid (sideOf_any (g s))
  generalize upI (sideOf (g s)) = U at *
  unfold intRow
  go_enter Tryd.func20, Tryd.ntmps20
  go_upto_region 1 with (fail)
  generalize (w.alloc (.cells (rowArr 69 fun i => .int .i64 (g i)) 24)) = w1 at *
  go_upto_region 3 with (go_at_call 38; refine (hsd.out _).mono ?_; rintro e w' ⟨rfl, rfl⟩)
  generalize sideOf (g s) = c at *
  clear hsd
  have hw1 : -1000 ≤ (s : Int) / 8 + U ∧ (s : Int) / 8 + U ≤ 1000 := by omega
  go_upto_region 4 with (first
        | (go_at_call 24; refine (file_any _ (by omega) (by omega) _).mono ?_; rintro e w' ⟨rfl, rfl⟩)
        | (go_at_call 8; refine (rank_any _ (by omega) (by omega) _).mono ?_; rintro e w' ⟨rfl, rfl⟩)
        | (go_at_call 39; refine (hup.out _).mono ?_; rintro e w' ⟨rfl, rfl⟩)
        | (go_at_call 23; refine (at_any _ _ (by omega) (by omega) (by omega) (by omega) _).mono ?_; rintro e w' ⟨rfl, rfl⟩))
  have hT1 := atOf_range ((s : Int) % 8) ((s : Int) / 8 + U)
  generalize atOf ((s : Int) % 8) ((s : Int) / 8 + U) = T1 at *
  go_cut [33] from 25 to 33 (fun x wx => wx = w1 ∧ ∃ b, x = .bool b ∧ (b = true → 0 ≤ T1))
  case first =>
    by_cases h1 : T1 < 0
    · have hd : decide ((0 : Int) ≤ T1) = false := decide_eq_false (by omega)
      have hd2 : decide (T1 ≥ 0) = false := hd
      clear h1 hT1
      go_wp2_with (fail)
      go_meet
      exact ⟨rfl, false, rfl, fun h => by cases h⟩
    · obtain ⟨t, rfl⟩ : ∃ t : Nat, T1 = t := ⟨T1.toNat, by omega⟩
      have hd : decide ((0 : Int) ≤ (t : Int)) = true := decide_eq_true (by omega)
      have hd2 : decide ((t : Int) ≥ 0) = true := hd
      have ht64 : t < 64 := by omega
      have htl : (t : Int) < 64 := by omega
      have hct : w1.cell? ⟨w.heap.size, t, none⟩ = some (.int .i64 (g t)) := hr.cell (i := t) (by omega)
      clear hT1 h1
      cases hz : (g t == 0)
      all_goals
        go_wp2_with (fail)
        go_meet
        exact ⟨rfl, _, rfl, fun _ => by omega⟩
  case rest =>
    obtain ⟨rfl, b, rfl, hb1⟩ := hcut
    go_upto_if 33 with (fail)
    have hl1 := hr.lt
    go_cut [6] from 25 to 63 (fun x wx => SqOwn wc.heap.size 2 x wx ∧ Below wc.heap.size wc wx)
    case first =>
      cases b
      · go_wp2_with (fail)
        go_meet
        exact ⟨⟨[], by simp, by simp, World.ownsRow_nil _ _ _ _⟩, Below.refl _ _⟩
      · obtain ⟨t, rfl⟩ : ∃ t : Nat, T1 = t := ⟨T1.toNat, by have := hb1 rfl; omega⟩
        have ht64 : t < 64 := by omega
        have ho : wc.ownsRow wc.heap.size 3 1 (.slice none 0 0) 0 (ints []) := World.ownsRow_nil _ _ _ _
        have hw2 : -1000 ≤ (s : Int) / 8 + 2 * U ∧ (s : Int) / 8 + 2 * U ≤ 1000 := by omega
        have e1 : IntKind.i64.wrap (2 * U) = 2 * U := IntWalk.i64_in _ (by omega)
        have e2 : IntKind.i64.wrap (5 * c) = 5 * c := IntWalk.i64_in _ (by omega)
        have hB1 := Below.refl wc.heap.size wc
        have hblk := Lib.hid hr
        clear hr hb hcs hb1 hT1
        go_upto_region 6 with (at_builtin; refine wpList_app rfl _ _ 32 rfl wc.heap.size 3 (.int .i64 0) 1 8 Tryd.underlying32 infoInt rfl (by decide) _ 0 (ints []) rfl ho hB1 (Nat.le_refl _) [.int .i64 (t : Int)] (one_int _) rfl _ rfl rfl (by omega) (by decide) ?_; intro v' w2 hown2 hbo3 hnil; have hown3 := SqOwn.next (l := []) (n := 0) (by simp) ht64 (by simp) hown2; clear hown2 hnil)
        have hrow := rowIs_below hblk.out hbo3 hblk.out.lt
        go_upto_region 7 with (first
        | (go_at_call 24; refine (file_any _ (by omega) (by omega) _).mono ?_; rintro e w' ⟨rfl, rfl⟩)
        | (go_at_call 8; refine (rank_any _ (by omega) (by omega) _).mono ?_; rintro e w' ⟨rfl, rfl⟩)
        | (go_at_call 39; refine (hup.out _).mono ?_; rintro e w' ⟨rfl, rfl⟩)
        | (go_at_call 23; refine (at_any _ _ (by omega) (by omega) (by omega) (by omega) _).mono ?_; rintro e w' ⟨rfl, rfl⟩))
        have hT2 : (s : Int) / 8 = 1 + 5 * c → 0 ≤ atOf ((s : Int) % 8) ((s : Int) / 8 + 2 * U) := fun h => by
          have hu := hUd.out
          unfold atOf
          rw [if_pos (by omega)]
          omega
        have hR2 := atOf_range ((s : Int) % 8) ((s : Int) / 8 + 2 * U)
        generalize atOf ((s : Int) % 8) ((s : Int) / 8 + 2 * U) = T2 at *
        clear e1 hw2 hup hUd
        cases hq : ((s : Int) / 8 == 1 + 5 * c)
        · clear hT2
          replace hown3 := Lib.hid (hown3.mono (show 0 + 1 ≤ 2 by omega))
          replace hbo3 := Lib.hid hbo3
          go_wp2_with (go_at_call 8; refine (rank_any _ (by omega) (by omega) _).mono ?_; rintro e w' ⟨rfl, rfl⟩)
          go_meet
          exact ⟨hown3.out, hbo3.out⟩
        · obtain ⟨t2, rfl⟩ : ∃ t2 : Nat, T2 = t2 := ⟨T2.toNat, by have := hT2 (by simpa using hq); omega⟩
          have ht2 : t2 < 64 := by omega
          have hct : w2.cell? ⟨w.heap.size, t2, none⟩ = some (.int .i64 (g t2)) := hrow.cell (i := t2) (by omega)
          have htl : (t2 : Int) < 64 := by omega
          clear hT2
          cases hz : (g t2 == 0)
          · replace hown3 := Lib.hid (hown3.mono (show 0 + 1 ≤ 2 by omega))
            replace hbo3 := Lib.hid hbo3
            go_wp2_with (go_at_call 8; refine (rank_any _ (by omega) (by omega) _).mono ?_; rintro e w' ⟨rfl, rfl⟩)
            go_meet
            exact ⟨hown3.out, hbo3.out⟩
          · obtain ⟨l, hl, hlen, ho3⟩ := hown3
            go_wp2_with (first
              | (go_at_call 8; refine (rank_any _ (by omega) (by omega) _).mono ?_; rintro e w' ⟨rfl, rfl⟩)
              | (at_builtin; refine wpList_app rfl _ _ 32 rfl wc.heap.size 3 (.int .i64 0) 1 8 Tryd.underlying32 infoInt rfl (by decide) _ l.length (ints l) rfl ho3 hbo3 (Nat.le_refl _) [.int .i64 (t2 : Int)] (one_int _) rfl _ rfl rfl (by omega) (by decide) ?_; intro v' w4 hown4 hbo4 hnil; have hown5 := Lib.hid (SqOwn.next (n := 1) hl ht2 (by omega) hown4); replace hbo4 := Lib.hid hbo4; clear hown4 hnil))
            go_meet
            exact ⟨hown5.out, hbo4.out⟩
    case rest =>
      obtain ⟨ho, hB⟩ := hcut
      have hr2 := rowIs_below hr hB hl1
      have hbW := hb.trans (hB.mono (Nat.le_of_lt hl1))
      replace ho := ho.weak (B' := w.heap.size + 1) hl1
      have hsz : w.heap.size < wc.heap.size := Nat.lt_of_lt_of_le hl1 hB.size
      clear hr hB hl1 hb hcs hb1 hT1 hw1 hup hUd hU
      go_wp2_with (fail)
      refine (hhop.out _).mono ?_
      rintro e w6 ⟨uh, rfl, lh, hlh, hlhl, hoh, hbh⟩
      obtain ⟨ha, hc, rfl, hcells⟩ := ints_cells rfl hoh
      have hr6 := rowIs_below hr2 hbh hr2.lt
      have hb6 := hbW.trans (hbh.mono (Nat.le_of_lt hsz))
      have ho6 : SqOwn (w.heap.size + 1) 2 u6 w6 := by
        obtain ⟨l, h1, h2, h3⟩ := ho
        exact ⟨l, h1, h2, own_belowI h3 hbh⟩
      have hne6 : ∀ k, wc.heap.size ≤ k → u6.ownBlock ≠ some k := fun k hk e => by
        rcases ho.block with h | ⟨b, h, hlt⟩
        · rw [h] at e; cases e
        · rw [h] at e; injection e with e; omega
      have hsz6 : w.heap.size + 1 ≤ w6.heap.size := Nat.le_trans hsz hbh.size
      clear hhop ho hr2 hbW hbh hoh
      go_wp2_with (fail)
      go_loopw [6, 10] (fun out i wr => ∃ q : Nat, q ≤ lh.length ∧ i = .int .i64 (q : Int) ∧ SqOwn (w.heap.size + 1) (2 + q) out wr ∧ (∀ gq, ha = some ⟨gq, 0, none⟩ → 0 < lh.length → out.ownBlock ≠ some gq ∧ wr.heap[gq]? = w6.heap[gq]?) ∧ Below (w.heap.size + 1) w6 wr) (fun _ i _ => lh.length - (intOf i).toNat)
      case atStart =>
        refine ⟨0, by omega, rfl, ho6, fun gq hq hp => ⟨?_, rfl⟩, Below.refl _ _⟩
        obtain ⟨g2, h2, h3, _⟩ := hcells hp
        rw [hq] at h2
        injection h2 with h2
        injection h2 with h2
        exact hne6 gq (by omega)
      case round =>
        clear ho6 hne6
        obtain ⟨q, hq, rfl, ho, hAp, hB⟩ := hrel
        by_cases hql : q < lh.length
        · obtain ⟨gq, rfl, hgB, hgs, hcl⟩ := hcells (by omega)
          obtain ⟨hne, hgk⟩ := hAp gq rfl (by omega)
          have hcq : wr.cell? ⟨gq, q, none⟩ = some (.int .i64 ((lh.getD q 0 : Nat) : Int)) := by rw [World.cell?_of_block hgk]; exact hcl q hql
          have ht : lh.getD q 0 < 64 := by
            rw [List.getD_eq_getElem?_getD, List.getElem?_eq_getElem hql]
            exact hlh _ (List.getElem_mem hql)
          have hr7 := hr6.of_block (hB.block w.heap.size (by omega))
          clear hcl hcells hAp
          generalize lh.getD q 0 = t at *
          have hct : wr.cell? ⟨w.heap.size, t, none⟩ = some (.int .i64 (g t)) := hr7.cell (i := t) (by omega)
          have hce : wr.cell? ⟨w.heap.size, 66, none⟩ = some (.int .i64 (g 66)) := hr7.cell (i := 66) (by omega)
          have htl : (t : Int) < 64 := by omega
          have hd : decide ((q : Int) < (lh.length : Int)) = true := decide_eq_true (by omega)
          have hqx : (q : Int) < (lh.length : Int) := by omega
          have e2 : IntKind.i64.wrap (3 * c) = 3 * c := IntWalk.i64_in _ (by omega)
          go_upto_region 14 with (fail)
          go_cut [111] from 80 to 111 (fun x wx => (∃ b, x = .bool b) ∧ ∃ n, wx = wr.drewN n)
          case first =>
            clear ho hB hne hgk
            cases hz : (g t == 0)
            · have hz2 : (g t != 0) = true := by simp [bne, hz]
              cases hs1 : (sideOf (g t) != c)
              · go_quiet (first | ((go_at_call 38; exact q_of (sideOf_any _ _))) | ((go_at_call 8; exact q_of (rank_any _ (by omega) (by omega) _))))
                go_wp2_with (fail)
                go_meet
                exact ⟨⟨_, rfl⟩, _, rfl⟩
              · go_quiet (first | ((go_at_call 38; exact q_of (sideOf_any _ _))) | ((go_at_call 8; exact q_of (rank_any _ (by omega) (by omega) _))))
                go_wp2_with (fail)
                go_meet
                exact ⟨⟨_, rfl⟩, _, rfl⟩
            · have hz2 : (g t != 0) = false := by simp [bne, hz]
              cases he : ((t : Int) == g 66)
              · go_quiet (first | ((go_at_call 38; exact q_of (sideOf_any _ _))) | ((go_at_call 8; exact q_of (rank_any _ (by omega) (by omega) _))))
                go_wp2_with (fail)
                go_meet
                exact ⟨⟨_, rfl⟩, _, rfl⟩
              · go_quiet (first | ((go_at_call 38; exact q_of (sideOf_any _ _))) | ((go_at_call 8; exact q_of (rank_any _ (by omega) (by omega) _))))
                go_wp2_with (fail)
                go_meet
                exact ⟨⟨_, rfl⟩, _, rfl⟩
          case rest =>
            obtain ⟨⟨b, rfl⟩, nn, hwc⟩ := hcut
            have hk : Below wr.heap.size wr wc := by rw [hwc]; exact ⟨rfl, rfl, rfl, Nat.le_refl _, fun _ _ => rfl⟩
            have hB7 : Below (w.heap.size + 1) w6 wc := by rw [hwc]; exact hB.trans ⟨rfl, rfl, rfl, Nat.le_refl _, fun _ _ => rfl⟩
            have hgk7 : wc.heap[gq]? = w6.heap[gq]? := by rw [hwc]; exact hgk
            have hcq7 : wc.cell? ⟨gq, q, none⟩ = some (.int .i64 (t : Int)) := by rw [hwc]; exact hcq
            obtain ⟨l, hl, hll, hol⟩ := ho
            have hol7 := own_belowI hol hk
            have hgl : gq < wc.heap.size := Nat.lt_of_lt_of_le hgs hB7.size
            clear hcq hol hB hk hgk hct hce hwc
            cases b
            · replace hol7 := Lib.hid hol7
              replace hB7 := Lib.hid hB7
              go_wp2_with (fail)
              exact ⟨⟨q + 1, by omega, by go_num, ⟨l, hl, by omega, hol7.out⟩, fun g2 h2 _ => by (injection h2 with h2; injection h2 with h2; subst h2; exact ⟨hne, hgk7⟩), hB7.out⟩, by simp [intOf]; omega⟩
            · replace hgk7 := Lib.hid hgk7
              replace hne := Lib.hid hne
              go_wp2_with (at_builtin; refine wpList_appL rfl _ _ 32 rfl (w.heap.size + 1) 3 (.int .i64 0) 1 8 Tryd.underlying32 infoInt rfl (by decide) _ l.length (ints l) rfl hol7 hB7 hsz6 [.int .i64 (t : Int)] (one_int _) rfl _ rfl rfl (by omega) (by decide) ?_; intro g2 cap w8 hown8 hB8 hkp hat; have hso := Lib.hid (SqOwn.next (n := 2 + q) hl ht (by omega) hown8); have hap := Lib.hid (show g2 ≠ gq ∧ w8.heap[gq]? = w6.heap[gq]? from ⟨by (rcases hat with h | h; (· intro e; subst e; exact hne.out h); (· omega)), (hkp gq hgl hne.out).trans hgk7.out⟩); replace hB8 := Lib.hid hB8; clear hown8 hkp hat)
              exact ⟨⟨q + 1, by omega, by go_num, hso.out, fun g3 h3 _ => by (injection h3 with h3; injection h3 with h3; subst h3; exact ⟨by (simp only [Value.ownBlock]; intro e; injection e with e; exact hap.out.1 e), hap.out.2⟩), hB8.out⟩, by simp [intOf]; omega⟩
        · obtain rfl : q = lh.length := by omega
          have hd : decide ((lh.length : Int) < (lh.length : Int)) = false := decide_eq_false (by omega)
          obtain ⟨l, hl, hll, hol⟩ := ho
          have hfin := Lib.hid (And.intro (own_weaker hol (Nat.le_succ _)) (hb6.trans (hB.mono (Nat.le_succ _))))
          clear hol hB hAp hcells hr6
          go_wp2_with (fail)
          go_ret
          exact ⟨_, rfl, l, hl, by omega, hfin.out.1, hfin.out.2⟩
end Go.Proofs.YthdbgjhonnogpaaDoor

/- The rules' pawns, exactly: what a pawn attacks, and a pawn's steps. -/
import Derived.Test.YthdbgjhonnogpaaDoorMvB
namespace Go.Proofs.YthdbgjhonnogpaaDoor
open Go.ChangeShapes Go.WideShapes Go.ChangeAt Go.RowKit Plain
set_option maxHeartbeats 4000000
set_option linter.unusedVariables false
set_option linter.unusedSimpArgs false

/-- The squares that a pawn attacks: the first k of two. -/
def hitT (U : Int) (s k : Nat) : Int := atOf ((s : Int) % 8 + (2 * (k : Int) - 1)) ((s : Int) / 8 + U)
def hitL (U : Int) (s : Nat) : Nat → List Nat
  | 0 => []
  | k + 1 => if hitT U s k < 0 then hitL U s k else hitL U s k ++ [(hitT U s k).toNat]
theorem hitL_lt (U : Int) (s : Nat) : ∀ k, ∀ t ∈ hitL U s k, t < 64
  | 0, t, h => by simp [hitL] at h
  | k + 1, t, h => by
    unfold hitL at h
    split at h
    · exact hitL_lt U s k t h
    · rcases List.mem_append.1 h with h | h
      · exact hitL_lt U s k t h
      · have := atOf_range ((s : Int) % 8 + (2 * (k : Int) - 1)) ((s : Int) / 8 + U)
        simp only [List.mem_singleton] at h
        unfold hitT at h
        omega
theorem hitL_len (U : Int) (s : Nat) : ∀ k, (hitL U s k).length ≤ k
  | 0 => by simp [hitL]
  | k + 1 => by
    have := hitL_len U s k
    unfold hitL
    split
    · omega
    · simp; omega
/-- A slice of just these squares. -/
def SqIs (L : List Nat) (w : World) (e : Ending) (w' : World) : Prop := ∃ u, e = .returned u ∧ w'.ownsRow w.heap.size 3 1 u L.length (ints L) ∧ Below w.heap.size w w'
set_option maxRecDepth 100000 in
theorem hop_is (s : Nat) (hs : s < 64) (c : Int) (h0 : 0 ≤ c) (h1 : c ≤ 1) (w : World) :
    Calls Tryd.prog 40 #[.int .i64 (s : Int), .int .i64 c] w fun e w' => SqIs (hitL (upI c) s 2) w e w' := by
  have hU : -1 ≤ upI c ∧ upI c ≤ 1 := by unfold upI; omega
  have hup := Lib.hid (up_any c h0 h1)
  generalize upI c = U at *
  go_enter Tryd.func40, Tryd.ntmps40
  go_wp2_with (fail)
  go_loopw [5, 6] (fun out d wr => ∃ (k : Nat), k ≤ 2 ∧ d = .int .i64 (2 * (k : Int) - 1) ∧ wr.ownsRow w.heap.size 3 1 out (hitL U s k).length (ints (hitL U s k)) ∧ Below w.heap.size w wr) (fun _ d _ => (3 - intOf d).toNat)
  case atStart => exact ⟨0, by omega, rfl, World.ownsRow_nil _ _ _ _, Below.refl _ _⟩
  case round =>
    obtain ⟨k, hk, rfl, ho, hb⟩ := hrel
    by_cases hlt : k < 2
    · have hw1 : -1000 ≤ (s : Int) % 8 + (2 * (k : Int) - 1) ∧ (s : Int) % 8 + (2 * (k : Int) - 1) ≤ 1000 := by omega
      have hw2 : -1000 ≤ (s : Int) / 8 + U ∧ (s : Int) / 8 + U ≤ 1000 := by omega
      have hd : decide ((2 * (k : Int) - 1) ≤ 1) = true := decide_eq_true (by omega)
      have hN := Lib.hid (show hitL U s (k + 1) = if atOf ((s : Int) % 8 + (2 * (k : Int) - 1)) ((s : Int) / 8 + U) < 0 then hitL U s k else hitL U s k ++ [(atOf ((s : Int) % 8 + (2 * (k : Int) - 1)) ((s : Int) / 8 + U)).toNat] from rfl)
      have hlen := hitL_len U s k
      generalize hitL U s k = l at *
      go_upto_region 6 with (first
        | (go_at_call 24; refine (file_any _ (by omega) (by omega) _).mono ?_; rintro e w' ⟨rfl, rfl⟩)
        | (go_at_call 8; refine (rank_any _ (by omega) (by omega) _).mono ?_; rintro e w' ⟨rfl, rfl⟩)
        | (go_at_call 39; refine (hup.out _).mono ?_; rintro e w' ⟨rfl, rfl⟩)
        | (go_at_call 23; refine (at_any _ _ (by omega) (by omega) (by omega) (by omega) _).mono ?_; rintro e w' ⟨rfl, rfl⟩))
      have hr := atOf_range ((s : Int) % 8 + (2 * (k : Int) - 1)) ((s : Int) / 8 + U)
      generalize atOf ((s : Int) % 8 + (2 * (k : Int) - 1)) ((s : Int) / 8 + U) = T at *
      clear hw1 hw2 hd hup hU
      by_cases hT : T < 0
      · have hd : decide ((0 : Int) ≤ T) = false := decide_eq_false (by omega)
        replace hN := Lib.hid (hN.out.trans (if_pos hT))
        go_wp2_with (fail)
        exact ⟨⟨k + 1, by omega, by go_num, by rw [hN.out]; exact ho, hb⟩, by simp [intOf]; omega⟩
      · replace hN := Lib.hid (hN.out.trans (if_neg hT))
        obtain ⟨t, rfl⟩ : ∃ t : Nat, T = t := ⟨T.toNat, by omega⟩
        have hd : decide ((0 : Int) ≤ (t : Int)) = true := decide_eq_true (by omega)
        go_wp2_with (at_builtin; refine wpList_app rfl _ _ 32 rfl w.heap.size 3 (.int .i64 0) 1 8 Tryd.underlying32 infoInt rfl (by decide) _ l.length (ints l) rfl ho hb (Nat.le_refl _) [.int .i64 (t : Int)] (one_int _) rfl _ rfl rfl (by omega) (by decide) ?_; intro v' w2 hown2 hbo3 hnil; have hown3 : w2.ownsRow w.heap.size 3 1 v' (l ++ [t]).length (ints (l ++ [t])) := (by simpa [ints] using hown2); replace hown3 := Lib.hid hown3; replace hbo3 := Lib.hid hbo3; clear hown2 hnil)
        exact ⟨⟨k + 1, by omega, by go_num, by rw [hN.out]; exact hown3.out, hbo3.out⟩, by simp [intOf]; omega⟩
    · obtain rfl : k = 2 := by omega
      go_wp2_with (fail)
      go_ret
      exact ⟨_, rfl, ho, hb⟩
/-- A pawn's steps forward. -/
def stepA (g : Nat → Int) (c U : Int) (s : Nat) : List Nat :=
  if 0 ≤ atOf ((s : Int) % 8) ((s : Int) / 8 + U) ∧ g (atOf ((s : Int) % 8) ((s : Int) / 8 + U)).toNat = 0 then
    if ((s : Int) / 8 == 1 + 5 * c) = true ∧ g (atOf ((s : Int) % 8) ((s : Int) / 8 + 2 * U)).toNat = 0 then [(atOf ((s : Int) % 8) ((s : Int) / 8 + U)).toNat, (atOf ((s : Int) % 8) ((s : Int) / 8 + 2 * U)).toNat]
    else [(atOf ((s : Int) % 8) ((s : Int) / 8 + U)).toNat]
  else []
theorem stepA_len (g : Nat → Int) (c U : Int) (s : Nat) : (stepA g c U s).length ≤ 2 := by
  unfold stepA
  split
  · split <;> simp
  · simp
theorem stepA_lt (g : Nat → Int) (c U : Int) (s : Nat) : ∀ t ∈ stepA g c U s, t < 64 := by
  have h1 := atOf_range ((s : Int) % 8) ((s : Int) / 8 + U)
  have h2 := atOf_range ((s : Int) % 8) ((s : Int) / 8 + 2 * U)
  intro t ht
  unfold stepA at ht
  split at ht
  · split at ht
    · simp only [List.mem_cons, List.not_mem_nil, or_false] at ht
      omega
    · simp only [List.mem_cons, List.not_mem_nil, or_false] at ht
      omega
  · cases ht
/-- Whether a pawn of a side takes on a square that it attacks. -/
def capB (g : Nat → Int) (c : Int) (t : Nat) : Bool := (g t != 0 && sideOf (g t) != c) || (g t == 0 && (t : Int) == g 66 && (t : Int) / 8 == 5 - 3 * c)
/-- A pawn's steps. -/
def pawnL (g : Nat → Int) (s : Nat) : List Nat := stepA g (sideOf (g s)) (upI (sideOf (g s))) s ++ (hitL (upI (sideOf (g s))) s 2).filter (capB g (sideOf (g s)))
theorem filt_snoc (f : Nat → Bool) (A l : List Nat) (q : Nat) (h : q < l.length) : A ++ (l.take (q + 1)).filter f = if f (l.getD q 0) = true then (A ++ (l.take q).filter f) ++ [l.getD q 0] else A ++ (l.take q).filter f := by
  rw [take_snoc l q h, List.filter_append]
  by_cases hf : f (l.getD q 0) = true
  · rw [List.filter_cons_of_pos hf, if_pos hf, List.filter_nil, List.append_assoc]
  · rw [List.filter_cons_of_neg hf, if_neg hf, List.filter_nil, List.append_nil]
theorem own_two {w : World} {B : Nat} {v : Value} {l : List Nat} {t : Nat} (h : w.ownsRow B 3 1 v (l.length + 1) (ints l ++ [.int .i64 (t : Int)])) : w.ownsRow B 3 1 v (l ++ [t]).length (ints (l ++ [t])) := by simpa [ints] using h
set_option maxRecDepth 100000 in
theorem steps_is (g : Nat → Int) (hg : ∀ i, i < 64 → 0 ≤ g i ∧ g i ≤ 12) (s : Nat) (hs : s < 64) (w : World) :
    Calls Tryd.prog 20 #[intRow 69 g, .int .i64 (s : Int)] w fun e w' => SqIs (pawnL g s) w e w' := by
  have hr := rowIs_new w 24 69 (fun i => .int .i64 (g i))
  have hb : Below w.heap.size w (w.alloc (.cells (rowArr 69 fun i => .int .i64 (g i)) 24)) := (Below.refl _ _).alloc (Nat.le_refl _) _
  have hc0 := sideOf_range (g s)
  have hcs := hr.cell (i := s) (by omega)
  have hhop := Lib.hid (hop_is s hs (sideOf (g s)) hc0.1 hc0.2)
  have hup := Lib.hid (up_any (sideOf (g s)) hc0.1 hc0.2)
  have hU : -1 ≤ upI (sideOf (g s)) ∧ upI (sideOf (g s)) ≤ 1 := by unfold upI; omega
  have hUd := Lib.hid (show upI (sideOf (g s)) = 1 - 2 * sideOf (g s) from rfl)
  have hsd := Lib.hid (sideOf_any (g s))
  obtain ⟨L, hL⟩ : ∃ L, L = pawnL g s := ⟨_, rfl⟩
  rw [← hL]
  unfold pawnL at hL
  replace hL := Lib.hid hL
  have hAd := Lib.hid (show stepA g (sideOf (g s)) (upI (sideOf (g s))) s = if 0 ≤ atOf ((s : Int) % 8) ((s : Int) / 8 + upI (sideOf (g s))) ∧ g (atOf ((s : Int) % 8) ((s : Int) / 8 + upI (sideOf (g s)))).toNat = 0 then
    if ((s : Int) / 8 == 1 + 5 * sideOf (g s)) = true ∧ g (atOf ((s : Int) % 8) ((s : Int) / 8 + 2 * upI (sideOf (g s)))).toNat = 0 then [(atOf ((s : Int) % 8) ((s : Int) / 8 + upI (sideOf (g s)))).toNat, (atOf ((s : Int) % 8) ((s : Int) / 8 + 2 * upI (sideOf (g s)))).toNat]
    else [(atOf ((s : Int) % 8) ((s : Int) / 8 + upI (sideOf (g s)))).toNat]
  else [] from rfl)
  have hAl := stepA_len g (sideOf (g s)) (upI (sideOf (g s))) s
  have hAt := Lib.hid (stepA_lt g (sideOf (g s)) (upI (sideOf (g s))) s)
  generalize stepA g (sideOf (g s)) (upI (sideOf (g s))) s = A at *
  generalize upI (sideOf (g s)) = U at *
  unfold intRow
  go_enter Tryd.func20, Tryd.ntmps20
  go_upto_region 1 with (fail)
  generalize (w.alloc (.cells (rowArr 69 fun i => .int .i64 (g i)) 24)) = w1 at *
  go_upto_region 3 with (go_at_call 38; refine (hsd.out _).mono ?_; rintro e w' ⟨rfl, rfl⟩)
  generalize sideOf (g s) = c at *
  clear hsd
  have hw1 : -1000 ≤ (s : Int) / 8 + U ∧ (s : Int) / 8 + U ≤ 1000 := by omega
  go_upto_region 4 with (first
        | (go_at_call 24; refine (file_any _ (by omega) (by omega) _).mono ?_; rintro e w' ⟨rfl, rfl⟩)
        | (go_at_call 8; refine (rank_any _ (by omega) (by omega) _).mono ?_; rintro e w' ⟨rfl, rfl⟩)
        | (go_at_call 39; refine (hup.out _).mono ?_; rintro e w' ⟨rfl, rfl⟩)
        | (go_at_call 23; refine (at_any _ _ (by omega) (by omega) (by omega) (by omega) _).mono ?_; rintro e w' ⟨rfl, rfl⟩))
  have hT1 := atOf_range ((s : Int) % 8) ((s : Int) / 8 + U)
  generalize atOf ((s : Int) % 8) ((s : Int) / 8 + U) = T1 at *
  go_cut [33] from 25 to 33 (fun x wx => wx = w1 ∧ ∃ b, x = .bool b ∧ (b = true → 0 ≤ T1 ∧ g T1.toNat = 0) ∧ (b = false → ¬ (0 ≤ T1 ∧ g T1.toNat = 0)))
  case first =>
    by_cases h1 : T1 < 0
    · have hd : decide ((0 : Int) ≤ T1) = false := decide_eq_false (by omega)
      have hd2 : decide (T1 ≥ 0) = false := hd
      clear h1 hT1
      go_wp2_with (fail)
      go_meet
      exact ⟨rfl, false, rfl, (fun h => by cases h), fun _ h3 => by have := of_decide_eq_false hd; omega⟩
    · obtain ⟨t, rfl⟩ : ∃ t : Nat, T1 = t := ⟨T1.toNat, by omega⟩
      have hd : decide ((0 : Int) ≤ (t : Int)) = true := decide_eq_true (by omega)
      have hd2 : decide ((t : Int) ≥ 0) = true := hd
      have ht64 : t < 64 := by omega
      have htl : (t : Int) < 64 := by omega
      have hct : w1.cell? ⟨w.heap.size, t, none⟩ = some (.int .i64 (g t)) := hr.cell (i := t) (by omega)
      clear hT1 h1
      cases hz : (g t == 0)
      all_goals
        go_wp2_with (fail)
        go_meet
        exact ⟨rfl, _, rfl, (fun h3 => ⟨by omega, by first | (simpa using hz) | cases h3 | simp_all⟩), fun h3 h4 => by simp_all⟩
  case rest =>
    obtain ⟨rfl, b, rfl, hb1, hb0⟩ := hcut
    go_upto_if 33 with (fail)
    have hl1 := hr.lt
    go_cut [6] from 25 to 63 (fun x wx => wx.ownsRow wc.heap.size 3 1 x A.length (ints A) ∧ Below wc.heap.size wc wx)
    case first =>
      cases b
      · go_wp2_with (fail)
        go_meet
        rw [hAd.out.trans (if_neg (hb0 (by trivial)))]
        exact ⟨World.ownsRow_nil _ _ _ _, Below.refl _ _⟩
      · replace hAd := Lib.hid (hAd.out.trans (if_pos (hb1 rfl)))
        obtain ⟨t, rfl⟩ : ∃ t : Nat, T1 = t := ⟨T1.toNat, by have := (hb1 rfl).1; omega⟩
        have ht64 : t < 64 := by omega
        have ho : wc.ownsRow wc.heap.size 3 1 (.slice none 0 0) 0 (ints []) := World.ownsRow_nil _ _ _ _
        have hw2 : -1000 ≤ (s : Int) / 8 + 2 * U ∧ (s : Int) / 8 + 2 * U ≤ 1000 := by omega
        have e1 : IntKind.i64.wrap (2 * U) = 2 * U := IntWalk.i64_in _ (by omega)
        have e2 : IntKind.i64.wrap (5 * c) = 5 * c := IntWalk.i64_in _ (by omega)
        have hB1 := Below.refl wc.heap.size wc
        have hblk := Lib.hid hr
        clear hr hb hcs hb1 hb0 hT1
        go_upto_region 6 with (at_builtin; refine wpList_app rfl _ _ 32 rfl wc.heap.size 3 (.int .i64 0) 1 8 Tryd.underlying32 infoInt rfl (by decide) _ 0 (ints []) rfl ho hB1 (Nat.le_refl _) [.int .i64 (t : Int)] (one_int _) rfl _ rfl rfl (by omega) (by decide) ?_; intro v' w2 hown2 hbo3 hnil; have hown3 : w2.ownsRow wc.heap.size 3 1 v' [t].length (ints [t]) := hown2; clear hown2 hnil)
        have hrow := rowIs_below hblk.out hbo3 hblk.out.lt
        go_upto_region 7 with (first
        | (go_at_call 24; refine (file_any _ (by omega) (by omega) _).mono ?_; rintro e w' ⟨rfl, rfl⟩)
        | (go_at_call 8; refine (rank_any _ (by omega) (by omega) _).mono ?_; rintro e w' ⟨rfl, rfl⟩)
        | (go_at_call 39; refine (hup.out _).mono ?_; rintro e w' ⟨rfl, rfl⟩)
        | (go_at_call 23; refine (at_any _ _ (by omega) (by omega) (by omega) (by omega) _).mono ?_; rintro e w' ⟨rfl, rfl⟩))
        have hT2 : (s : Int) / 8 = 1 + 5 * c → 0 ≤ atOf ((s : Int) % 8) ((s : Int) / 8 + 2 * U) := fun h => by
          have hu := hUd.out
          unfold atOf
          rw [if_pos (by omega)]
          omega
        have hR2 := atOf_range ((s : Int) % 8) ((s : Int) / 8 + 2 * U)
        generalize atOf ((s : Int) % 8) ((s : Int) / 8 + 2 * U) = T2 at *
        clear e1 hw2 hup hUd
        cases hq : ((s : Int) / 8 == 1 + 5 * c)
        · clear hT2
          replace hown3 := Lib.hid hown3
          replace hbo3 := Lib.hid hbo3
          replace hAd := Lib.hid (hAd.out.trans (if_neg (by rintro ⟨h, _⟩; rw [hq] at h; cases h)))
          go_wp2_with (go_at_call 8; refine (rank_any _ (by omega) (by omega) _).mono ?_; rintro e w' ⟨rfl, rfl⟩)
          go_meet
          rw [hAd.out]
          exact ⟨hown3.out, hbo3.out⟩
        · obtain ⟨t2, rfl⟩ : ∃ t2 : Nat, T2 = t2 := ⟨T2.toNat, by have := hT2 (by simpa using hq); omega⟩
          have ht2 : t2 < 64 := by omega
          have hct : w2.cell? ⟨w.heap.size, t2, none⟩ = some (.int .i64 (g t2)) := hrow.cell (i := t2) (by omega)
          have htl : (t2 : Int) < 64 := by omega
          clear hT2
          cases hz : (g t2 == 0)
          · replace hown3 := Lib.hid hown3
            replace hbo3 := Lib.hid hbo3
            replace hAd := Lib.hid (hAd.out.trans (if_neg (by rintro ⟨_, h⟩; rw [beq_eq_false_iff_ne] at hz; exact hz (by simpa using h))))
            go_wp2_with (go_at_call 8; refine (rank_any _ (by omega) (by omega) _).mono ?_; rintro e w' ⟨rfl, rfl⟩)
            go_meet
            rw [hAd.out]
            exact ⟨hown3.out, hbo3.out⟩
          · have ho3 := hown3
            clear hown3
            replace hAd := Lib.hid (hAd.out.trans (if_pos ⟨hq, by simpa using hz⟩))
            go_wp2_with (first
              | (go_at_call 8; refine (rank_any _ (by omega) (by omega) _).mono ?_; rintro e w' ⟨rfl, rfl⟩)
              | (at_builtin; refine wpList_app rfl _ _ 32 rfl wc.heap.size 3 (.int .i64 0) 1 8 Tryd.underlying32 infoInt rfl (by decide) _ [t].length (ints [t]) rfl ho3 hbo3 (Nat.le_refl _) [.int .i64 (t2 : Int)] (one_int _) rfl _ rfl rfl (by simp) (by decide) ?_; intro v' w4 hown4 hbo4 hnil; have hown5 := Lib.hid (own_two hown4); replace hbo4 := Lib.hid hbo4; clear hown4 hnil))
            go_meet
            rw [hAd.out]
            exact ⟨hown5.out, hbo4.out⟩
    case rest =>
      obtain ⟨ho, hB⟩ := hcut
      have hr2 := rowIs_below hr hB hl1
      have hbW := hb.trans (hB.mono (Nat.le_of_lt hl1))
      replace ho := own_weaker (B' := w.heap.size + 1) ho hl1
      have hsz : w.heap.size < wc.heap.size := Nat.lt_of_lt_of_le hl1 hB.size
      clear hr hB hl1 hb hcs hb1 hb0 hT1 hw1 hup hUd hU hAd
      go_wp2_with (fail)
      refine (hhop.out _).mono ?_
      rintro e w6 ⟨uh, rfl, hoh, hbh⟩
      have hlh := hitL_lt U s 2
      have hlhl := hitL_len U s 2
      generalize hitL U s 2 = lh at *
      obtain ⟨ha, hc, rfl, hcells⟩ := ints_cells rfl hoh
      have hr6 := rowIs_below hr2 hbh hr2.lt
      have hb6 := hbW.trans (hbh.mono (Nat.le_of_lt hsz))
      have ho6 : w6.ownsRow (w.heap.size + 1) 3 1 u6 A.length (ints A) := own_belowI ho hbh
      have hne6 : ∀ k, wc.heap.size ≤ k → u6.ownBlock ≠ some k := fun k hk e => by
        rcases (show SqOwn (w.heap.size + 1) 2 u6 wc from ⟨A, hAt.out, hAl, ho⟩).block with h | ⟨b, h, hlt⟩
        · rw [h] at e; cases e
        · rw [h] at e; injection e with e; omega
      have hsz6 : w.heap.size + 1 ≤ w6.heap.size := Nat.le_trans hsz hbh.size
      clear hhop ho hr2 hbW hbh hoh
      go_wp2_with (fail)
      go_loopw [6, 10] (fun out i wr => ∃ q : Nat, q ≤ lh.length ∧ i = .int .i64 (q : Int) ∧ wr.ownsRow (w.heap.size + 1) 3 1 out (A ++ (lh.take q).filter (capB g c)).length (ints (A ++ (lh.take q).filter (capB g c))) ∧ (∀ gq, ha = some ⟨gq, 0, none⟩ → 0 < lh.length → out.ownBlock ≠ some gq ∧ wr.heap[gq]? = w6.heap[gq]?) ∧ Below (w.heap.size + 1) w6 wr) (fun _ i _ => lh.length - (intOf i).toNat)
      case atStart =>
        refine ⟨0, by omega, rfl, by simpa using ho6, fun gq hq hp => ⟨?_, rfl⟩, Below.refl _ _⟩
        obtain ⟨g2, h2, h3, _⟩ := hcells hp
        rw [hq] at h2
        injection h2 with h2
        injection h2 with h2
        exact hne6 gq (by omega)
      case round =>
        clear ho6 hne6
        obtain ⟨q, hq, rfl, ho, hAp, hB⟩ := hrel
        by_cases hql : q < lh.length
        · have hsn := Lib.hid (filt_snoc (capB g c) A lh q hql)
          have hll : (A ++ (lh.take q).filter (capB g c)).length ≤ 4 := by
            have h1 := List.length_filter_le (capB g c) (lh.take q)
            have h2 := List.length_take (i := q) (l := lh)
            rw [List.length_append]; omega
          generalize A ++ (lh.take q).filter (capB g c) = l at *
          obtain ⟨gq, rfl, hgB, hgs, hcl⟩ := hcells (by omega)
          obtain ⟨hne, hgk⟩ := hAp gq rfl (by omega)
          have hcq : wr.cell? ⟨gq, q, none⟩ = some (.int .i64 ((lh.getD q 0 : Nat) : Int)) := by rw [World.cell?_of_block hgk]; exact hcl q hql
          have ht : lh.getD q 0 < 64 := by
            rw [List.getD_eq_getElem?_getD, List.getElem?_eq_getElem hql]
            exact hlh _ (List.getElem_mem hql)
          have hr7 := hr6.of_block (hB.block w.heap.size (by omega))
          clear hcl hcells hAp
          generalize lh.getD q 0 = t at *
          have hct : wr.cell? ⟨w.heap.size, t, none⟩ = some (.int .i64 (g t)) := hr7.cell (i := t) (by omega)
          have hce : wr.cell? ⟨w.heap.size, 66, none⟩ = some (.int .i64 (g 66)) := hr7.cell (i := 66) (by omega)
          have htl : (t : Int) < 64 := by omega
          have hd : decide ((q : Int) < (lh.length : Int)) = true := decide_eq_true (by omega)
          have hqx : (q : Int) < (lh.length : Int) := by omega
          have e2 : IntKind.i64.wrap (3 * c) = 3 * c := IntWalk.i64_in _ (by omega)
          go_upto_region 14 with (fail)
          go_cut [111] from 80 to 111 (fun x wx => x = .bool (capB g c t) ∧ ∃ n, wx = wr.drewN n)
          case first =>
            clear ho hB hne hgk
            cases hz : (g t == 0)
            · have hz2 : (g t != 0) = true := by simp [bne, hz]
              cases hs1 : (sideOf (g t) != c)
              · go_quiet (first | ((go_at_call 38; exact q_of (sideOf_any _ _))) | ((go_at_call 8; exact q_of (rank_any _ (by omega) (by omega) _))))
                go_wp2_with (fail)
                go_meet
                exact ⟨congrArg Value.bool (by simp_all [capB]), _, rfl⟩
              · go_quiet (first | ((go_at_call 38; exact q_of (sideOf_any _ _))) | ((go_at_call 8; exact q_of (rank_any _ (by omega) (by omega) _))))
                go_wp2_with (fail)
                go_meet
                exact ⟨congrArg Value.bool (by simp_all [capB]), _, rfl⟩
            · have hz2 : (g t != 0) = false := by simp [bne, hz]
              cases he : ((t : Int) == g 66)
              · go_quiet (first | ((go_at_call 38; exact q_of (sideOf_any _ _))) | ((go_at_call 8; exact q_of (rank_any _ (by omega) (by omega) _))))
                go_wp2_with (fail)
                go_meet
                exact ⟨congrArg Value.bool (by simp_all [capB]), _, rfl⟩
              · go_quiet (first | ((go_at_call 38; exact q_of (sideOf_any _ _))) | ((go_at_call 8; exact q_of (rank_any _ (by omega) (by omega) _))))
                go_wp2_with (fail)
                go_meet
                exact ⟨congrArg Value.bool (by simp_all [capB]), _, rfl⟩
          case rest =>
            obtain ⟨rfl, nn, hwc⟩ := hcut
            generalize capB g c t = b at *
            have hk : Below wr.heap.size wr wc := by rw [hwc]; exact ⟨rfl, rfl, rfl, Nat.le_refl _, fun _ _ => rfl⟩
            have hB7 : Below (w.heap.size + 1) w6 wc := by rw [hwc]; exact hB.trans ⟨rfl, rfl, rfl, Nat.le_refl _, fun _ _ => rfl⟩
            have hgk7 : wc.heap[gq]? = w6.heap[gq]? := by rw [hwc]; exact hgk
            have hcq7 : wc.cell? ⟨gq, q, none⟩ = some (.int .i64 (t : Int)) := by rw [hwc]; exact hcq
            have hol7 := own_belowI ho hk
            have hgl : gq < wc.heap.size := Nat.lt_of_lt_of_le hgs hB7.size
            clear hcq ho hB hk hgk hct hce hwc
            cases b
            · replace hol7 := Lib.hid hol7
              replace hB7 := Lib.hid hB7
              go_wp2_with (fail)
              exact ⟨⟨q + 1, by omega, by go_num, by rw [hsn.out.trans (if_neg (by decide))]; exact hol7.out, fun g2 h2 _ => by (injection h2 with h2; injection h2 with h2; subst h2; exact ⟨hne, hgk7⟩), hB7.out⟩, by simp [intOf]; omega⟩
            · replace hgk7 := Lib.hid hgk7
              replace hne := Lib.hid hne
              go_wp2_with (at_builtin; refine wpList_appL rfl _ _ 32 rfl (w.heap.size + 1) 3 (.int .i64 0) 1 8 Tryd.underlying32 infoInt rfl (by decide) _ l.length (ints l) rfl hol7 hB7 hsz6 [.int .i64 (t : Int)] (one_int _) rfl _ rfl rfl (by omega) (by decide) ?_; intro g2 cap w8 hown8 hB8 hkp hat; have hso := Lib.hid (own_two hown8); have hap := Lib.hid (show g2 ≠ gq ∧ w8.heap[gq]? = w6.heap[gq]? from ⟨by (rcases hat with h | h; (· intro e; subst e; exact hne.out h); (· omega)), (hkp gq hgl hne.out).trans hgk7.out⟩); replace hB8 := Lib.hid hB8; clear hown8 hkp hat)
              exact ⟨⟨q + 1, by omega, by go_num, by rw [hsn.out.trans (if_pos rfl)]; exact hso.out, fun g3 h3 _ => by (injection h3 with h3; injection h3 with h3; subst h3; exact ⟨by (simp only [Value.ownBlock]; intro e; injection e with e; exact hap.out.1 e), hap.out.2⟩), hB8.out⟩, by simp [intOf]; omega⟩
        · obtain rfl : q = lh.length := by omega
          have hd : decide ((lh.length : Int) < (lh.length : Int)) = false := decide_eq_false (by omega)
          rw [List.take_length] at ho
          have hfin := Lib.hid (And.intro (own_weaker ho (Nat.le_succ _)) (hb6.trans (hB.mono (Nat.le_succ _))))
          clear ho hB hAp hcells hr6
          go_wp2_with (fail)
          go_ret
          rw [hL.out]
          exact ⟨_, rfl, hfin.out.1, hfin.out.2⟩
end Go.Proofs.YthdbgjhonnogpaaDoor

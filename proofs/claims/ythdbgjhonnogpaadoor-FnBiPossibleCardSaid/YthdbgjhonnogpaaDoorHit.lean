/- Whether a piece attacks a square, one for one: the contract of spec.Hits. -/
import Derived.Test.YthdbgjhonnogpaaDoorRule
import Derived.Deep.Cut
import Derived.Deep.CutRange
namespace Go.Proofs.YthdbgjhonnogpaaDoor
open Go.ChangeShapes Go.WideShapes Go.ChangeAt Go.RowKit Plain
set_option maxHeartbeats 4000000
set_option linter.unusedVariables false
set_option linter.unusedSimpArgs false

/-- Nothing on n squares, from i on by a way. -/
def clr (g : Nat → Int) (way : Int) : Nat → Int → Bool
  | 0, _ => true
  | n + 1, i => if g i.toNat = 0 then clr g way n (i + way) else false
def fD (s t : Nat) : Int := (t : Int) % 8 - (s : Int) % 8
def rD (s t : Nat) : Int := (t : Int) / 8 - (s : Int) / 8
def wayD (s t : Nat) : Int := sgn (fD s t) + 8 * sgn (rD s t)
def farD (s t : Nat) : Nat := max (fD s t).natAbs (rD s t).natAbs
def lineB (g : Nat → Int) (s t : Nat) : Bool := clr g (wayD s t) (farD s t - 1) ((s : Int) + wayD s t)
def strB (s t : Nat) : Bool := fD s t == 0 || rD s t == 0
def slaB (s t : Nat) : Bool := fD s t == rD s t || fD s t == -rD s t
def hitK (g : Nat → Int) (k : Int) (s t : Nat) : Bool :=
  if k = 1 then decide (fD s t * fD s t ≤ 1) && decide (rD s t * rD s t ≤ 1)
  else if k = 5 then fD s t * fD s t + rD s t * rD s t == 5
  else if k = 6 then fD s t * fD s t == 1 && rD s t == upI (sideOf (g s))
  else if (k != 4 && strB s t) || (k != 3 && slaB s t) then lineB g s t else false
def hitB (g : Nat → Int) (s t : Nat) : Bool := if s = t ∨ g s = 0 then false else hitK g (kindOf (g s)) s t
theorem sq_small {f : Int} (h0 : -7 ≤ f) (h1 : f ≤ 7) : 0 ≤ f * f ∧ f * f ≤ 49 := by
  have h : f = -7 ∨ f = -6 ∨ f = -5 ∨ f = -4 ∨ f = -3 ∨ f = -2 ∨ f = -1 ∨ f = 0 ∨ f = 1 ∨ f = 2 ∨ f = 3 ∨ f = 4 ∨ f = 5 ∨ f = 6 ∨ f = 7 := by omega
  rcases h with rfl | rfl | rfl | rfl | rfl | rfl | rfl | rfl | rfl | rfl | rfl | rfl | rfl | rfl | rfl <;> decide
/-- Along a line: the way's steps lead to the other square, on squares. -/
theorem line_all : (List.range 64).all (fun s => (List.range 64).all fun t => s == t || !(strB s t || slaB s t) || ((s : Int) + wayD s t * farD s t == t && decide (1 ≤ farD s t) && decide (farD s t ≤ 7) && (List.range 8).all fun q => !decide (q ≤ farD s t) || (decide (0 ≤ (s : Int) + wayD s t * q) && decide ((s : Int) + wayD s t * q < 64) && (q == farD s t || (s : Int) + wayD s t * q != t)))) = true := by kernel_rfl
theorem line_facts {s t : Nat} (hs : s < 64) (ht : t < 64) (hne : s ≠ t) (h : (strB s t || slaB s t) = true) :
    (s : Int) + wayD s t * farD s t = t ∧ 1 ≤ farD s t ∧ farD s t ≤ 7 ∧ ∀ q, q ≤ farD s t → 0 ≤ (s : Int) + wayD s t * q ∧ (s : Int) + wayD s t * q < 64 ∧ (q ≠ farD s t → (s : Int) + wayD s t * q ≠ t) := by
  have h1 := List.all_eq_true.1 (List.all_eq_true.1 line_all s (List.mem_range.2 hs)) t (List.mem_range.2 ht)
  have hne' : (s == t) = false := by simpa using hne
  rw [hne', h] at h1
  simp only [Bool.false_or, Bool.not_true, Bool.and_eq_true, beq_iff_eq, decide_eq_true_eq, List.all_eq_true, List.mem_range, Bool.or_eq_true, Bool.not_eq_true', decide_eq_false_iff_not, bne_iff_ne, ne_eq] at h1
  obtain ⟨⟨⟨a, b⟩, c⟩, d⟩ := h1
  refine ⟨a, b, c, fun q hq => ?_⟩
  rcases d q (by omega) with h | ⟨⟨e1, e2⟩, e3⟩
  · exact absurd hq h
  · exact ⟨e1, e2, fun hn => e3.resolve_left hn⟩
theorem fD_range (s t : Nat) : -7 ≤ fD s t ∧ fD s t ≤ 7 := by unfold fD; omega
theorem rD_range (s t : Nat) (hs : s < 64) (ht : t < 64) : -7 ≤ rD s t ∧ rD s t ≤ 7 := by unfold rD; omega
theorem sgn_range (n : Int) : -1 ≤ sgn n ∧ sgn n ≤ 1 := by unfold sgn; split <;> (try split) <;> omega
set_option maxRecDepth 100000 in
theorem hits_any (g : Nat → Int) (hg : ∀ i, i < 64 → 0 ≤ g i ∧ g i ≤ 12) (s t : Nat) (hs : s < 64) (ht : t < 64) (w : World) :
    Calls Tryd.prog 46 #[intRow 69 g, .int .i64 (s : Int), .int .i64 (t : Int)] w fun e w' => e = .returned (.bool (hitB g s t)) ∧ Below w.heap.size w w' := by
  have hr := rowIs_new w 24 69 (fun i => .int .i64 (g i))
  have hb : Below w.heap.size w (w.alloc (.cells (rowArr 69 fun i => .int .i64 (g i)) 24)) := (Below.refl _ _).alloc (Nat.le_refl _) _
  have hcs := hr.cell (i := s) (by omega)
  have hgs := hg s hs
  have hkind := Lib.hid (kindOf_any (g s) (by omega) (by omega) (w.alloc (.cells (rowArr 69 fun i => .int .i64 (g i)) 24)))
  unfold intRow
  by_cases hst : s = t
  · have H := Lib.hid (show hitB g s t = false by unfold hitB; rw [if_pos (Or.inl hst)])
    subst hst
    go_enter Tryd.func46, Tryd.ntmps46
    go_wp2_with (first
      | (go_at_call 24; refine (file_any _ (by omega) (by omega) _).mono ?_; rintro e w' ⟨rfl, rfl⟩)
      | (go_at_call 8; refine (rank_any _ (by omega) (by omega) _).mono ?_; rintro e w' ⟨rfl, rfl⟩)
      | (go_at_call 22; refine hkind.out.mono ?_; rintro e w' ⟨rfl, rfl⟩)
      | (go_at_call 38; refine (sideOf_any _ _).mono ?_; rintro e w' ⟨rfl, rfl⟩)
      | (go_at_call 39; refine (up_any _ (sideOf_range _).1 (sideOf_range _).2 _).mono ?_; rintro e w' ⟨rfl, rfl⟩))
    go_ret
    exact ⟨by rw [H.out]; rfl, hb⟩
  by_cases hz : g s = 0
  · have H := Lib.hid (show hitB g s t = false by unfold hitB; rw [if_pos (Or.inr hz)])
    have hq : ((s : Int) == (t : Int)) = false := by simp; omega
    have hz' : (g s == 0) = true := by simpa using hz
    go_enter Tryd.func46, Tryd.ntmps46
    go_wp2_with (first
      | (go_at_call 24; refine (file_any _ (by omega) (by omega) _).mono ?_; rintro e w' ⟨rfl, rfl⟩)
      | (go_at_call 8; refine (rank_any _ (by omega) (by omega) _).mono ?_; rintro e w' ⟨rfl, rfl⟩)
      | (go_at_call 22; refine hkind.out.mono ?_; rintro e w' ⟨rfl, rfl⟩)
      | (go_at_call 38; refine (sideOf_any _ _).mono ?_; rintro e w' ⟨rfl, rfl⟩)
      | (go_at_call 39; refine (up_any _ (sideOf_range _).1 (sideOf_range _).2 _).mono ?_; rintro e w' ⟨rfl, rfl⟩))
    go_ret
    exact ⟨by rw [H.out]; rfl, hb⟩
  have H : hitB g s t = hitK g (kindOf (g s)) s t := by unfold hitB; rw [if_neg (by simp [hst, hz])]
  have hq : ((s : Int) == (t : Int)) = false := by simp; omega
  have hz' : (g s == 0) = false := by simpa using hz
  have hkr : 1 ≤ kindOf (g s) ∧ kindOf (g s) ≤ 6 := by unfold kindOf; split <;> omega
  have f1 := fD_range s t
  have r1 := rD_range s t hs ht
  have ef : (t : Int) % 8 - (s : Int) % 8 = fD s t := rfl
  have er : (t : Int) / 8 - (s : Int) / 8 = rD s t := rfl
  have f2 := sq_small f1.1 f1.2
  have r2 := sq_small r1.1 r1.2
  have e1 : IntKind.i64.wrap (fD s t * fD s t) = fD s t * fD s t := IntWalk.i64_in _ (by omega)
  have e2 : IntKind.i64.wrap (rD s t * rD s t) = rD s t * rD s t := IntWalk.i64_in _ (by omega)
  have e3 : IntKind.i64.wrap (fD s t * fD s t + rD s t * rD s t) = fD s t * fD s t + rD s t * rD s t := IntWalk.i64_in _ (by omega)
  have hK : kindOf (g s) = 1 ∨ kindOf (g s) = 5 ∨ kindOf (g s) = 6 ∨ kindOf (g s) = 2 ∨ kindOf (g s) = 3 ∨ kindOf (g s) = 4 := by omega
  rcases hK with hK | hK | hK | hK | hK | hK
  · rw [hK] at H hkind
    replace H := Lib.hid (show hitB g s t = (decide (fD s t * fD s t ≤ 1) && decide (rD s t * rD s t ≤ 1)) from H)
    clear hK hkr hz hst
    generalize fD s t = F at *
    generalize rD s t = R at *
    go_enter Tryd.func46, Tryd.ntmps46
    go_wp2_with (first
      | (go_at_call 24; refine (file_any _ (by omega) (by omega) _).mono ?_; rintro e w' ⟨rfl, rfl⟩)
      | (go_at_call 8; refine (rank_any _ (by omega) (by omega) _).mono ?_; rintro e w' ⟨rfl, rfl⟩)
      | (go_at_call 22; refine hkind.out.mono ?_; rintro e w' ⟨rfl, rfl⟩)
      | (go_at_call 38; refine (sideOf_any _ _).mono ?_; rintro e w' ⟨rfl, rfl⟩)
      | (go_at_call 39; refine (up_any _ (sideOf_range _).1 (sideOf_range _).2 _).mono ?_; rintro e w' ⟨rfl, rfl⟩))
    all_goals
      go_ret
      refine ⟨?_, hb⟩
      rw [H.out]
      clear hr hb hcs hg hgs hkind H hq hz' ef er e1 e2 e3
      try (simp [*])
      try omega
  · rw [hK] at H hkind
    replace H := Lib.hid (show hitB g s t = (fD s t * fD s t + rD s t * rD s t == 5) from H)
    clear hK hkr hz hst
    generalize fD s t = F at *
    generalize rD s t = R at *
    go_enter Tryd.func46, Tryd.ntmps46
    go_wp2_with (first
      | (go_at_call 24; refine (file_any _ (by omega) (by omega) _).mono ?_; rintro e w' ⟨rfl, rfl⟩)
      | (go_at_call 8; refine (rank_any _ (by omega) (by omega) _).mono ?_; rintro e w' ⟨rfl, rfl⟩)
      | (go_at_call 22; refine hkind.out.mono ?_; rintro e w' ⟨rfl, rfl⟩)
      | (go_at_call 38; refine (sideOf_any _ _).mono ?_; rintro e w' ⟨rfl, rfl⟩)
      | (go_at_call 39; refine (up_any _ (sideOf_range _).1 (sideOf_range _).2 _).mono ?_; rintro e w' ⟨rfl, rfl⟩))
    all_goals
      go_ret
      refine ⟨?_, hb⟩
      rw [H.out]
      clear hr hb hcs hg hgs hkind H hq hz' ef er e1 e2 e3
      try (simp [*])
      try omega
  · rw [hK] at H hkind
    replace H := Lib.hid (show hitB g s t = (fD s t * fD s t == 1 && rD s t == upI (sideOf (g s))) from H)
    clear hK hkr hz hst
    generalize fD s t = F at *
    generalize rD s t = R at *
    generalize hU : upI (sideOf (g s)) = U at *
    replace hU := Lib.hid hU
    have hup := Lib.hid (up_any (sideOf (g s)) (sideOf_range _).1 (sideOf_range _).2 (w.alloc (.cells (rowArr 69 fun i => .int .i64 (g i)) 24)))
    rw [hU.out] at hup
    go_enter Tryd.func46, Tryd.ntmps46
    go_wp2_with (first
      | (go_at_call 24; refine (file_any _ (by omega) (by omega) _).mono ?_; rintro e w' ⟨rfl, rfl⟩)
      | (go_at_call 8; refine (rank_any _ (by omega) (by omega) _).mono ?_; rintro e w' ⟨rfl, rfl⟩)
      | (go_at_call 22; refine hkind.out.mono ?_; rintro e w' ⟨rfl, rfl⟩)
      | (go_at_call 38; refine (sideOf_any _ _).mono ?_; rintro e w' ⟨rfl, rfl⟩)
      | (go_at_call 39; refine hup.out.mono ?_; rintro e w' ⟨rfl, rfl⟩))
    all_goals
      go_ret
      refine ⟨?_, hb⟩
      rw [H.out]
      clear hr hb hcs hg hgs hkind H hq hz' ef er e1 e2 e3
      try (simp [*])
      try omega
  · rw [hK] at H hkind
    replace H := Lib.hid (show hitB g s t = (if (strB s t || slaB s t) then lineB g s t else false) from H)
    have hS := Lib.hid (show strB s t = (fD s t == 0 || rD s t == 0) from rfl)
    have hLF := Lib.hid (fun h => line_facts hs ht hst h)
    have hway := Lib.hid (show sgn (fD s t) + 8 * sgn (rD s t) = wayD s t from rfl)
    have hline := Lib.hid (show lineB g s t = clr g (wayD s t) (farD s t - 1) ((s : Int) + wayD s t) from rfl)
    have sF := sgn_range (fD s t)
    have sR := sgn_range (rD s t)
    have hL := Lib.hid (show slaB s t = (fD s t == rD s t || fD s t == -rD s t) from rfl)
    generalize strB s t = st at *
    generalize slaB s t = sl at *
    generalize fD s t = F at *
    generalize rD s t = R at *
    obtain ⟨b0, hb0⟩ : ∃ b, (F == 0) = b := ⟨_, rfl⟩
    obtain ⟨b1, hb1⟩ : ∃ b, (R == 0) = b := ⟨_, rfl⟩
    obtain ⟨b2, hb2⟩ : ∃ b, (F == R) = b := ⟨_, rfl⟩
    obtain ⟨b3, hb3⟩ : ∃ b, (F == -R) = b := ⟨_, rfl⟩
    replace hS := Lib.hid (show st = (b0 || b1) by rw [hS.out, hb0, hb1])
    replace hL := Lib.hid (show sl = (b2 || b3) by rw [hL.out, hb2, hb3])
    clear hK hkr hz hst
    go_enter Tryd.func46, Tryd.ntmps46
    go_upto_region 5 with (
      first
      | (go_at_call 24; refine (file_any _ (by omega) (by omega) _).mono ?_; rintro e w' ⟨rfl, rfl⟩)
      | (go_at_call 8; refine (rank_any _ (by omega) (by omega) _).mono ?_; rintro e w' ⟨rfl, rfl⟩))
    go_cut [9] from 33 to 38 (fun v wx => v = .bool st ∧ wx = w.alloc (.cells (rowArr 69 fun i => .int .i64 (g i)) 24))
    case first =>
      go_wp2_with (fail)
      all_goals
        go_meet
        case rel => exact ⟨by simp [hS.out, *], rfl⟩
    case rest =>
      obtain ⟨rfl, rfl⟩ := hcut
      go_upto_region 6 with (fail)
      go_cut [10] from 39 to 47 (fun v wx => v = .bool sl ∧ wx = w.alloc (.cells (rowArr 69 fun i => .int .i64 (g i)) 24))
      case first =>
        go_wp2_with (fail)
        all_goals
          go_meet
          case rel => exact ⟨by simp [hL.out, *], rfl⟩
      case rest =>
        obtain ⟨rfl, rfl⟩ := hcut
        generalize wayD s t = wy at *
        generalize farD s t = m at *
        by_cases hl : (st || sl) = true
        · have H2 := Lib.hid (H.out.trans (if_pos hl))
          obtain ⟨q1, q2, q3, q4⟩ := hLF.out hl
          have q5 := q4 1 q2
          have hwy := hway.out
          have hne : wy ≠ 0 := fun h => by rw [h, Int.zero_mul, Int.add_zero] at q1; rw [q1] at hq; simp at hq
          have hcond : st = true ∨ (st = false ∧ sl = true) := by revert hl; cases st <;> cases sl <;> simp
          replace H2 := Lib.hid (H2.out.trans hline.out)
          replace q1 := Lib.hid q1
          replace q4 := Lib.hid q4
          replace hne := Lib.hid hne
          clear hS hL hLF H hb0 hb1 hb2 hb3 hl hline hway
          rcases hcond with rfl | ⟨rfl, rfl⟩
          all_goals
            go_wp2_with (first
              | (go_at_call 56; refine (sign_any _ _).mono ?_; rintro e w' ⟨rfl, rfl⟩)
              | (go_at_call 22; refine hkind.out.mono ?_; rintro e w' ⟨rfl, rfl⟩))
            generalize w.alloc (.cells (rowArr 69 fun i => .int .i64 (g i)) 24) = w1 at *
            go_loopw [12] (fun i wr => ∃ q : Nat, 1 ≤ q ∧ q ≤ m ∧ i = .int .i64 ((s : Int) + wy * (q : Int)) ∧ hitB g s t = clr g wy (m - q) ((s : Int) + wy * (q : Int)) ∧ wr = w1) (fun i _ => ((t : Int) - intOf i).natAbs)
            case atStart => exact ⟨1, by omega, q2, by simp, by simpa using H2.out, rfl⟩
            case round =>
              obtain ⟨q, p1, p2, rfl, hF, rfl⟩ := hrel
              have q6 := q4.out q p2
              by_cases hqm : q = m
              · subst hqm
                rw [q1.out] at hF ⊢
                rw [Nat.sub_self] at hF
                replace hF := Lib.hid (show hitB g s t = true from hF)
                go_wp2
                go_ret
                exact ⟨by rw [hF.out]; rfl, hb⟩
              · obtain ⟨n, hn⟩ : ∃ n : Nat, (s : Int) + wy * (q : Int) = n := ⟨((s : Int) + wy * (q : Int)).toNat, by omega⟩
                have hnx : (n : Int) + wy = (s : Int) + wy * ((q + 1 : Nat) : Int) := by rw [← hn, Int.natCast_add, Int.mul_add]; simp; omega
                have hms : ((t : Int) - ((n : Int) + wy)).natAbs < ((t : Int) - (n : Int)).natAbs := by
                  have e1 : (t : Int) - (n : Int) = wy * ((m - q : Nat) : Int) := by rw [← q1.out, ← hn, Int.natCast_sub p2, Int.mul_sub]; omega
                  have e2 : (t : Int) - ((n : Int) + wy) = wy * ((m - (q + 1) : Nat) : Int) := by rw [← q1.out, hnx, Int.natCast_sub (by omega), Int.mul_sub]; omega
                  rw [e1, e2, Int.natAbs_mul, Int.natAbs_mul]
                  exact Nat.mul_lt_mul_of_pos_left (by simp; omega) (Int.natAbs_pos.2 hne.out)
                rw [hn] at hF q6 ⊢
                have hnt : ((n : Int) != (t : Int)) = true := by simp; exact_mod_cast q6.2.2 hqm
                have hcn := hr.cell (i := n) (by omega)
                have q7 := q4.out (q + 1) (by omega)
                rw [← hnx] at q7
                have hcl : clr g wy (m - q) (n : Int) = if g n = 0 then clr g wy (m - (q + 1)) ((n : Int) + wy) else false := by
                  rw [show m - q = (m - (q + 1)) + 1 by omega]; rfl
                rw [hcl] at hF
                replace hms := Lib.hid hms
                replace hnx := Lib.hid hnx
                clear hcl hn
                by_cases hgn : g n = 0
                · replace hF := Lib.hid (hF.trans (if_pos hgn))
                  go_wp2
                  exact ⟨⟨q + 1, by omega, by omega, by rw [← hnx.out], by rw [← hnx.out]; exact hF.out, trivial⟩, by simpa [intOf] using hms.out⟩
                · replace hF := Lib.hid (hF.trans (if_neg hgn))
                  go_wp2
                  go_ret
                  exact ⟨by rw [hF.out]; rfl, hb⟩
        · have H2 := Lib.hid (H.out.trans (if_neg hl))
          have h1 : st = false := by revert hl; cases st <;> simp
          have h2 : sl = false := by revert hl; cases st <;> cases sl <;> simp
          subst h1 h2
          clear hS hL hLF H hb0 hb1 hb2 hb3
          go_wp2_with (go_at_call 22; refine hkind.out.mono ?_; rintro e w' ⟨rfl, rfl⟩)
          go_ret
          exact ⟨by rw [H2.out]; rfl, hb⟩
  · rw [hK] at H hkind
    replace H := Lib.hid (show hitB g s t = (if (strB s t || false) then lineB g s t else false) from H)
    have hS := Lib.hid (show strB s t = (fD s t == 0 || rD s t == 0) from rfl)
    have hLF := Lib.hid (fun h => line_facts hs ht hst h)
    have hway := Lib.hid (show sgn (fD s t) + 8 * sgn (rD s t) = wayD s t from rfl)
    have hline := Lib.hid (show lineB g s t = clr g (wayD s t) (farD s t - 1) ((s : Int) + wayD s t) from rfl)
    have sF := sgn_range (fD s t)
    have sR := sgn_range (rD s t)
    have hL := Lib.hid (show slaB s t = (fD s t == rD s t || fD s t == -rD s t) from rfl)
    generalize strB s t = st at *
    generalize slaB s t = sl at *
    generalize fD s t = F at *
    generalize rD s t = R at *
    obtain ⟨b0, hb0⟩ : ∃ b, (F == 0) = b := ⟨_, rfl⟩
    obtain ⟨b1, hb1⟩ : ∃ b, (R == 0) = b := ⟨_, rfl⟩
    obtain ⟨b2, hb2⟩ : ∃ b, (F == R) = b := ⟨_, rfl⟩
    obtain ⟨b3, hb3⟩ : ∃ b, (F == -R) = b := ⟨_, rfl⟩
    replace hS := Lib.hid (show st = (b0 || b1) by rw [hS.out, hb0, hb1])
    replace hL := Lib.hid (show sl = (b2 || b3) by rw [hL.out, hb2, hb3])
    clear hK hkr hz hst
    go_enter Tryd.func46, Tryd.ntmps46
    go_upto_region 5 with (
      first
      | (go_at_call 24; refine (file_any _ (by omega) (by omega) _).mono ?_; rintro e w' ⟨rfl, rfl⟩)
      | (go_at_call 8; refine (rank_any _ (by omega) (by omega) _).mono ?_; rintro e w' ⟨rfl, rfl⟩))
    go_cut [9] from 33 to 38 (fun v wx => v = .bool st ∧ wx = w.alloc (.cells (rowArr 69 fun i => .int .i64 (g i)) 24))
    case first =>
      go_wp2_with (fail)
      all_goals
        go_meet
        case rel => exact ⟨by simp [hS.out, *], rfl⟩
    case rest =>
      obtain ⟨rfl, rfl⟩ := hcut
      go_upto_region 6 with (fail)
      go_cut [10] from 39 to 47 (fun v wx => v = .bool sl ∧ wx = w.alloc (.cells (rowArr 69 fun i => .int .i64 (g i)) 24))
      case first =>
        go_wp2_with (fail)
        all_goals
          go_meet
          case rel => exact ⟨by simp [hL.out, *], rfl⟩
      case rest =>
        obtain ⟨rfl, rfl⟩ := hcut
        generalize wayD s t = wy at *
        generalize farD s t = m at *
        by_cases hl : (st || false) = true
        · have H2 := Lib.hid (H.out.trans (if_pos hl))
          obtain ⟨q1, q2, q3, q4⟩ := hLF.out (by revert hl; cases st <;> cases sl <;> simp)
          have q5 := q4 1 q2
          have hwy := hway.out
          have hne : wy ≠ 0 := fun h => by rw [h, Int.zero_mul, Int.add_zero] at q1; rw [q1] at hq; simp at hq
          have hcond : st = true := by revert hl; cases st <;> simp
          replace H2 := Lib.hid (H2.out.trans hline.out)
          replace q1 := Lib.hid q1
          replace q4 := Lib.hid q4
          replace hne := Lib.hid hne
          clear hS hL hLF H hb0 hb1 hb2 hb3 hl hline hway
          subst hcond
          all_goals
            go_wp2_with (first
              | (go_at_call 56; refine (sign_any _ _).mono ?_; rintro e w' ⟨rfl, rfl⟩)
              | (go_at_call 22; refine hkind.out.mono ?_; rintro e w' ⟨rfl, rfl⟩))
            generalize w.alloc (.cells (rowArr 69 fun i => .int .i64 (g i)) 24) = w1 at *
            go_loopw [12] (fun i wr => ∃ q : Nat, 1 ≤ q ∧ q ≤ m ∧ i = .int .i64 ((s : Int) + wy * (q : Int)) ∧ hitB g s t = clr g wy (m - q) ((s : Int) + wy * (q : Int)) ∧ wr = w1) (fun i _ => ((t : Int) - intOf i).natAbs)
            case atStart => exact ⟨1, by omega, q2, by simp, by simpa using H2.out, rfl⟩
            case round =>
              obtain ⟨q, p1, p2, rfl, hF, rfl⟩ := hrel
              have q6 := q4.out q p2
              by_cases hqm : q = m
              · subst hqm
                rw [q1.out] at hF ⊢
                rw [Nat.sub_self] at hF
                replace hF := Lib.hid (show hitB g s t = true from hF)
                go_wp2
                go_ret
                exact ⟨by rw [hF.out]; rfl, hb⟩
              · obtain ⟨n, hn⟩ : ∃ n : Nat, (s : Int) + wy * (q : Int) = n := ⟨((s : Int) + wy * (q : Int)).toNat, by omega⟩
                have hnx : (n : Int) + wy = (s : Int) + wy * ((q + 1 : Nat) : Int) := by rw [← hn, Int.natCast_add, Int.mul_add]; simp; omega
                have hms : ((t : Int) - ((n : Int) + wy)).natAbs < ((t : Int) - (n : Int)).natAbs := by
                  have e1 : (t : Int) - (n : Int) = wy * ((m - q : Nat) : Int) := by rw [← q1.out, ← hn, Int.natCast_sub p2, Int.mul_sub]; omega
                  have e2 : (t : Int) - ((n : Int) + wy) = wy * ((m - (q + 1) : Nat) : Int) := by rw [← q1.out, hnx, Int.natCast_sub (by omega), Int.mul_sub]; omega
                  rw [e1, e2, Int.natAbs_mul, Int.natAbs_mul]
                  exact Nat.mul_lt_mul_of_pos_left (by simp; omega) (Int.natAbs_pos.2 hne.out)
                rw [hn] at hF q6 ⊢
                have hnt : ((n : Int) != (t : Int)) = true := by simp; exact_mod_cast q6.2.2 hqm
                have hcn := hr.cell (i := n) (by omega)
                have q7 := q4.out (q + 1) (by omega)
                rw [← hnx] at q7
                have hcl : clr g wy (m - q) (n : Int) = if g n = 0 then clr g wy (m - (q + 1)) ((n : Int) + wy) else false := by
                  rw [show m - q = (m - (q + 1)) + 1 by omega]; rfl
                rw [hcl] at hF
                replace hms := Lib.hid hms
                replace hnx := Lib.hid hnx
                clear hcl hn
                by_cases hgn : g n = 0
                · replace hF := Lib.hid (hF.trans (if_pos hgn))
                  go_wp2
                  exact ⟨⟨q + 1, by omega, by omega, by rw [← hnx.out], by rw [← hnx.out]; exact hF.out, trivial⟩, by simpa [intOf] using hms.out⟩
                · replace hF := Lib.hid (hF.trans (if_neg hgn))
                  go_wp2
                  go_ret
                  exact ⟨by rw [hF.out]; rfl, hb⟩
        · have H2 := Lib.hid (H.out.trans (if_neg hl))
          have h1 : st = false := by revert hl; cases st <;> simp
          subst h1
          clear hS hL hLF H hb0 hb1 hb2 hb3
          go_wp2_with (go_at_call 22; refine hkind.out.mono ?_; rintro e w' ⟨rfl, rfl⟩)
          go_ret
          exact ⟨by rw [H2.out]; rfl, hb⟩
  · rw [hK] at H hkind
    replace H := Lib.hid (show hitB g s t = (if (false || slaB s t) then lineB g s t else false) from H)
    have hS := Lib.hid (show strB s t = (fD s t == 0 || rD s t == 0) from rfl)
    have hLF := Lib.hid (fun h => line_facts hs ht hst h)
    have hway := Lib.hid (show sgn (fD s t) + 8 * sgn (rD s t) = wayD s t from rfl)
    have hline := Lib.hid (show lineB g s t = clr g (wayD s t) (farD s t - 1) ((s : Int) + wayD s t) from rfl)
    have sF := sgn_range (fD s t)
    have sR := sgn_range (rD s t)
    have hL := Lib.hid (show slaB s t = (fD s t == rD s t || fD s t == -rD s t) from rfl)
    generalize strB s t = st at *
    generalize slaB s t = sl at *
    generalize fD s t = F at *
    generalize rD s t = R at *
    obtain ⟨b0, hb0⟩ : ∃ b, (F == 0) = b := ⟨_, rfl⟩
    obtain ⟨b1, hb1⟩ : ∃ b, (R == 0) = b := ⟨_, rfl⟩
    obtain ⟨b2, hb2⟩ : ∃ b, (F == R) = b := ⟨_, rfl⟩
    obtain ⟨b3, hb3⟩ : ∃ b, (F == -R) = b := ⟨_, rfl⟩
    replace hS := Lib.hid (show st = (b0 || b1) by rw [hS.out, hb0, hb1])
    replace hL := Lib.hid (show sl = (b2 || b3) by rw [hL.out, hb2, hb3])
    clear hK hkr hz hst
    go_enter Tryd.func46, Tryd.ntmps46
    go_upto_region 5 with (
      first
      | (go_at_call 24; refine (file_any _ (by omega) (by omega) _).mono ?_; rintro e w' ⟨rfl, rfl⟩)
      | (go_at_call 8; refine (rank_any _ (by omega) (by omega) _).mono ?_; rintro e w' ⟨rfl, rfl⟩))
    go_cut [9] from 33 to 38 (fun v wx => v = .bool st ∧ wx = w.alloc (.cells (rowArr 69 fun i => .int .i64 (g i)) 24))
    case first =>
      go_wp2_with (fail)
      all_goals
        go_meet
        case rel => exact ⟨by simp [hS.out, *], rfl⟩
    case rest =>
      obtain ⟨rfl, rfl⟩ := hcut
      go_upto_region 6 with (fail)
      go_cut [10] from 39 to 47 (fun v wx => v = .bool sl ∧ wx = w.alloc (.cells (rowArr 69 fun i => .int .i64 (g i)) 24))
      case first =>
        go_wp2_with (fail)
        all_goals
          go_meet
          case rel => exact ⟨by simp [hL.out, *], rfl⟩
      case rest =>
        obtain ⟨rfl, rfl⟩ := hcut
        generalize wayD s t = wy at *
        generalize farD s t = m at *
        by_cases hl : (false || sl) = true
        · have H2 := Lib.hid (H.out.trans (if_pos hl))
          obtain ⟨q1, q2, q3, q4⟩ := hLF.out (by revert hl; cases st <;> cases sl <;> simp)
          have q5 := q4 1 q2
          have hwy := hway.out
          have hne : wy ≠ 0 := fun h => by rw [h, Int.zero_mul, Int.add_zero] at q1; rw [q1] at hq; simp at hq
          have hcond : sl = true := by revert hl; cases sl <;> simp
          replace H2 := Lib.hid (H2.out.trans hline.out)
          replace q1 := Lib.hid q1
          replace q4 := Lib.hid q4
          replace hne := Lib.hid hne
          clear hS hL hLF H hb0 hb1 hb2 hb3 hl hline hway
          subst hcond
          all_goals
            go_wp2_with (first
              | (go_at_call 56; refine (sign_any _ _).mono ?_; rintro e w' ⟨rfl, rfl⟩)
              | (go_at_call 22; refine hkind.out.mono ?_; rintro e w' ⟨rfl, rfl⟩))
            generalize w.alloc (.cells (rowArr 69 fun i => .int .i64 (g i)) 24) = w1 at *
            go_loopw [12] (fun i wr => ∃ q : Nat, 1 ≤ q ∧ q ≤ m ∧ i = .int .i64 ((s : Int) + wy * (q : Int)) ∧ hitB g s t = clr g wy (m - q) ((s : Int) + wy * (q : Int)) ∧ wr = w1) (fun i _ => ((t : Int) - intOf i).natAbs)
            case atStart => exact ⟨1, by omega, q2, by simp, by simpa using H2.out, rfl⟩
            case round =>
              obtain ⟨q, p1, p2, rfl, hF, rfl⟩ := hrel
              have q6 := q4.out q p2
              by_cases hqm : q = m
              · subst hqm
                rw [q1.out] at hF ⊢
                rw [Nat.sub_self] at hF
                replace hF := Lib.hid (show hitB g s t = true from hF)
                go_wp2
                go_ret
                exact ⟨by rw [hF.out]; rfl, hb⟩
              · obtain ⟨n, hn⟩ : ∃ n : Nat, (s : Int) + wy * (q : Int) = n := ⟨((s : Int) + wy * (q : Int)).toNat, by omega⟩
                have hnx : (n : Int) + wy = (s : Int) + wy * ((q + 1 : Nat) : Int) := by rw [← hn, Int.natCast_add, Int.mul_add]; simp; omega
                have hms : ((t : Int) - ((n : Int) + wy)).natAbs < ((t : Int) - (n : Int)).natAbs := by
                  have e1 : (t : Int) - (n : Int) = wy * ((m - q : Nat) : Int) := by rw [← q1.out, ← hn, Int.natCast_sub p2, Int.mul_sub]; omega
                  have e2 : (t : Int) - ((n : Int) + wy) = wy * ((m - (q + 1) : Nat) : Int) := by rw [← q1.out, hnx, Int.natCast_sub (by omega), Int.mul_sub]; omega
                  rw [e1, e2, Int.natAbs_mul, Int.natAbs_mul]
                  exact Nat.mul_lt_mul_of_pos_left (by simp; omega) (Int.natAbs_pos.2 hne.out)
                rw [hn] at hF q6 ⊢
                have hnt : ((n : Int) != (t : Int)) = true := by simp; exact_mod_cast q6.2.2 hqm
                have hcn := hr.cell (i := n) (by omega)
                have q7 := q4.out (q + 1) (by omega)
                rw [← hnx] at q7
                have hcl : clr g wy (m - q) (n : Int) = if g n = 0 then clr g wy (m - (q + 1)) ((n : Int) + wy) else false := by
                  rw [show m - q = (m - (q + 1)) + 1 by omega]; rfl
                rw [hcl] at hF
                replace hms := Lib.hid hms
                replace hnx := Lib.hid hnx
                clear hcl hn
                by_cases hgn : g n = 0
                · replace hF := Lib.hid (hF.trans (if_pos hgn))
                  go_wp2
                  exact ⟨⟨q + 1, by omega, by omega, by rw [← hnx.out], by rw [← hnx.out]; exact hF.out, trivial⟩, by simpa [intOf] using hms.out⟩
                · replace hF := Lib.hid (hF.trans (if_neg hgn))
                  go_wp2
                  go_ret
                  exact ⟨by rw [hF.out]; rfl, hb⟩
        · have H2 := Lib.hid (H.out.trans (if_neg hl))
          have h2 : sl = false := by revert hl; cases sl <;> simp
          subst h2
          clear hS hL hLF H hb0 hb1 hb2 hb3
          go_wp2_with (go_at_call 22; refine hkind.out.mono ?_; rintro e w' ⟨rfl, rfl⟩)
          go_ret
          exact ⟨by rw [H2.out]; rfl, hb⟩
end Go.Proofs.YthdbgjhonnogpaaDoor

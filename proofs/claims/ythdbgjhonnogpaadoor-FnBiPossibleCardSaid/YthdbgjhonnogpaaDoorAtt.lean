/- Whether a side attacks a square, and whether a king is attacked: the contracts of spec.Attacked, Checked, InCheck. -/
import Derived.Test.YthdbgjhonnogpaaDoorHit
import Derived.Test.YthdbgjhonnogpaaDoorUnguard
namespace Go.Proofs.YthdbgjhonnogpaaDoor
open Go.ChangeShapes Go.WideShapes Go.ChangeAt Go.RowKit Plain
set_option maxHeartbeats 4000000
set_option linter.unusedVariables false
set_option linter.unusedSimpArgs false

/-- What the program asks of one square. -/
def hitsBy (g : Nat → Int) (sq : Nat) (by_ : Int) (i : Nat) : Bool := g i != 0 && (sideOf (g i) == by_ && hitB g i sq)
def attGo (g : Nat → Int) (sq : Nat) (by_ : Int) : Nat → Nat → Bool
  | 0, _ => false
  | m + 1, i => if hitsBy g sq by_ i then true else attGo g sq by_ m (i + 1)
def attB (g : Nat → Int) (sq : Nat) (by_ : Int) : Bool := attGo g sq by_ 64 0
theorem attGo_iff (g : Nat → Int) (sq : Nat) (by_ : Int) : ∀ m i, attGo g sq by_ m i = true ↔ ∃ j, i ≤ j ∧ j < i + m ∧ hitsBy g sq by_ j = true
  | 0, i => by
    simp only [attGo, Bool.false_eq_true, false_iff]
    rintro ⟨j, h1, h2, _⟩
    omega
  | m + 1, i => by
    unfold attGo
    by_cases h : hitsBy g sq by_ i = true
    · rw [if_pos h]
      exact ⟨fun _ => ⟨i, by omega, by omega, h⟩, fun _ => rfl⟩
    · rw [if_neg h, attGo_iff g sq by_ m (i + 1)]
      constructor
      · rintro ⟨j, h1, h2, h3⟩; exact ⟨j, by omega, by omega, h3⟩
      · rintro ⟨j, h1, h2, h3⟩
        have : j ≠ i := fun e => h (e ▸ h3)
        exact ⟨j, by omega, by omega, h3⟩
theorem attB_iff (g : Nat → Int) (sq : Nat) (by_ : Int) : attB g sq by_ = true ↔ ∃ j, j < 64 ∧ hitsBy g sq by_ j = true := by
  unfold attB
  rw [attGo_iff]
  constructor
  · rintro ⟨j, _, h2, h3⟩; exact ⟨j, by omega, h3⟩
  · rintro ⟨j, h2, h3⟩; exact ⟨j, by omega, by omega, h3⟩
set_option maxRecDepth 100000 in
theorem attacked_any (g : Nat → Int) (hg : ∀ i, i < 64 → 0 ≤ g i ∧ g i ≤ 12) (sq : Nat) (hsq : sq < 64) (b : Int) (hb0 : 0 ≤ b) (hb1 : b ≤ 1) (w : World) :
    Calls Tryd.prog 32 #[intRow 69 g, .int .i64 (sq : Int), .int .i64 b] w fun e w' => e = .returned (.bool (attB g sq b)) ∧ Below w.heap.size w w' := by
  have hr := rowIs_new w 24 69 (fun i => .int .i64 (g i))
  have hb : Below w.heap.size w (w.alloc (.cells (rowArr 69 fun i => .int .i64 (g i)) 24)) := (Below.refl _ _).alloc (Nat.le_refl _) _
  obtain ⟨A, hA⟩ : ∃ A, A = attB g sq b := ⟨_, rfl⟩
  rw [← hA]
  have hA0 := Lib.hid (show A = attGo g sq b 64 0 from hA)
  clear hA
  unfold intRow
  go_enter Tryd.func32, Tryd.ntmps32
  go_wp2
  generalize (w.alloc (.cells (rowArr 69 fun i => .int .i64 (g i)) 24)) = w1 at *
  go_loopw [7] (fun i wr => ∃ j : Nat, j ≤ 64 ∧ i = .int .i64 j ∧ A = attGo g sq b (64 - j) j ∧ wr.rowIs w.heap.size 24 69 (fun i => .int .i64 (g i)) ∧ Below w.heap.size w wr) (fun i _ => 64 - (intOf i).toNat)
  case atStart => exact ⟨0, by omega, rfl, hA0.out, hr, hb⟩
  case round =>
    clear hr hb hA0
    obtain ⟨j, hj, rfl, hF, hr, hb⟩ := hrel
    by_cases hlt : j < 64
    · have hc := hr.cell (i := j) (by omega)
      have hlt' := hr.lt
      have hs : attGo g sq b (64 - j) j = if hitsBy g sq b j then true else attGo g sq b (64 - (j + 1)) (j + 1) := by
        rw [show 64 - j = (64 - (j + 1)) + 1 by omega]; rfl
      rw [hs] at hF
      clear hs
      have hh : hitsBy g sq b j = (g j != 0 && (sideOf (g j) == b && hitB g j sq)) := rfl
      have hcall := Lib.hid (hits_any g hg j sq hlt hsq wr)
      unfold intRow at hcall
      have hsd := Lib.hid (sideOf_any (g j) wr)
      have hblk := Lib.hid (rowIs_block hr)
      have hn := hg j hlt
      replace hr := Lib.hid hr
      clear hg
      rw [hh] at hF
      clear hh
      generalize hitB g j sq = hit at *
      generalize sideOf (g j) = sd at *
      by_cases h0 : g j = 0
      · have e0 : (g j != 0) = false := by simp [h0]
        rw [e0] at hF
        replace hF := Lib.hid (show A = attGo g sq b (64 - (j + 1)) (j + 1) from hF)
        go_wp2
        exact ⟨⟨j + 1, by omega, by go_num, hF.out, hr.out, hb⟩, by simp [intOf]; omega⟩
      · have e0 : (g j != 0) = true := by simp [h0]
        cases hd : (sd == b)
        · rw [e0, hd] at hF
          replace hF := Lib.hid (show A = attGo g sq b (64 - (j + 1)) (j + 1) from hF)
          go_wp2_with (go_at_call 38; refine hsd.out.mono ?_; rintro e w' ⟨rfl, rfl⟩)
          exact ⟨⟨j + 1, by omega, by go_num, hF.out, hr.out, hb⟩, by simp [intOf]; omega⟩
        · rw [e0, hd] at hF
          replace hF := Lib.hid (show A = if hit then true else attGo g sq b (64 - (j + 1)) (j + 1) from hF)
          cases hit
          all_goals
            go_wp2_with (first
              | (refine wpList_unguard (by rfl) (wpList_load_row rfl 24 _ rfl w.heap.size rfl _ _ (0, 0) _ hblk.out Tryd.underlying24 rfl (by rw [infoPos', rowArr_size]) ?_))
              | (go_at_call 46; refine hcall.out.mono ?_; rintro e w' ⟨rfl, hb2⟩; have hr2 := Lib.hid (rowIs_below hr.out hb2 hlt'); have hb3 := hb.trans (hb2.mono hb.size))
              | (go_at_call 38; refine hsd.out.mono ?_; rintro e w' ⟨rfl, rfl⟩))
          · exact ⟨⟨j + 1, by omega, by go_num, hF.out, hr2.out, hb3⟩, by simp [intOf]; omega⟩
          · go_ret
            exact ⟨by rw [hF.out]; rfl, hb3⟩
    · obtain rfl : j = 64 := by omega
      replace hF := Lib.hid (show A = false from hF)
      go_wp2
      go_ret
      exact ⟨by rw [hF.out]; rfl, hb⟩
/-- A side's king is attacked. -/
def chkB (g : Nat → Int) (s : Int) : Bool := decide (0 ≤ kingAt g s) && attB g (kingAt g s).toNat (1 - s)
theorem kingAt_range (g : Nat → Int) (s : Int) : -1 ≤ kingAt g s ∧ kingAt g s < 64 := by
  have := kFrom_range g (1 + 6 * s) 64 0
  unfold kingAt; omega
set_option maxRecDepth 100000 in
theorem checked_any (g : Nat → Int) (hg : ∀ i, i < 64 → 0 ≤ g i ∧ g i ≤ 12) (s : Int) (h0 : 0 ≤ s) (h1 : s ≤ 1) (w : World) :
    Calls Tryd.prog 19 #[intRow 69 g, .int .i64 s] w fun e w' => e = .returned (.bool (chkB g s)) ∧ Below w.heap.size w w' := by
  have hr := rowIs_new w 24 69 (fun i => .int .i64 (g i))
  have hb : Below w.heap.size w (w.alloc (.cells (rowArr 69 fun i => .int .i64 (g i)) 24)) := (Below.refl _ _).alloc (Nat.le_refl _) _
  have hkr := kingAt_range g s
  have hk := fun w1 => kingAt_any g s h0 h1 w1
  have ha := fun (k : Nat) (hk : k < 64) w1 => attacked_any g hg k hk (1 - s) (by omega) (by omega) w1
  have hC : chkB g s = (decide (0 ≤ kingAt g s) && attB g (kingAt g s).toNat (1 - s)) := rfl
  generalize kingAt g s = k at *
  unfold intRow at hk ha ⊢
  replace hk := Lib.hid hk
  replace hC := Lib.hid hC
  have hblk := Lib.hid (rowIs_block hr)
  have hlt := hr.lt
  replace hr := Lib.hid hr
  clear hg
  by_cases hn : k < 0
  · clear ha
    go_enter Tryd.func19, Tryd.ntmps19
    go_wp2_with (first
      | (refine wpList_load_row rfl 24 _ rfl w.heap.size rfl _ _ (0, 0) _ hblk.out Tryd.underlying24 rfl (by rw [infoPos', rowArr_size]) ?_)
      | (go_at_call 33; refine (hk.out _).mono ?_; rintro e w1 ⟨rfl, hb1⟩))
    go_ret
    have e : decide (0 ≤ k) = false := by simp; omega
    exact ⟨by rw [hC.out, e]; rfl, hb.trans (hb1.mono hb.size)⟩
  · obtain ⟨n, rfl⟩ : ∃ n : Nat, k = n := ⟨k.toNat, by omega⟩
    have ha := Lib.hid (ha n (by omega))
    rw [Int.toNat_natCast] at hC
    generalize attB g n (1 - s) = A at *
    go_enter Tryd.func19, Tryd.ntmps19
    go_wp2_with (first
      | (refine wpList_unguard (by rfl) (wpList_load_row rfl 24 _ rfl w.heap.size rfl _ _ (0, 0) _ hblk2.out Tryd.underlying24 rfl (by rw [infoPos', rowArr_size]) ?_))
      | (go_at_call 32; refine (ha.out _).mono ?_; rintro e w2 ⟨rfl, hb2⟩)
      | (refine wpList_load_row rfl 24 _ rfl w.heap.size rfl _ _ (0, 0) _ hblk.out Tryd.underlying24 rfl (by rw [infoPos', rowArr_size]) ?_)
      | (go_at_call 33; refine (hk.out _).mono ?_; rintro e w1 ⟨rfl, hb1⟩; have hblk2 := Lib.hid (rowIs_block (rowIs_below hr.out hb1 hlt))))
    go_ret
    have e : decide (0 ≤ (n : Int)) = true := by simp
    have hb3 := hb.trans (hb1.mono hb.size)
    exact ⟨by rw [hC.out, e]; rfl, hb3.trans (hb2.mono hb3.size)⟩
set_option maxRecDepth 100000 in
theorem inCheck_any (g : Nat → Int) (hg : ∀ i, i < 64 → 0 ≤ g i ∧ g i ≤ 12) (h0 : 0 ≤ g 64) (h1 : g 64 ≤ 1) (w : World) :
    Calls Tryd.prog 7 #[intRow 69 g] w fun e w' => e = .returned (.bool (chkB g (g 64))) ∧ Below w.heap.size w w' := by
  have hr := rowIs_new w 24 69 (fun i => .int .i64 (g i))
  have hb : Below w.heap.size w (w.alloc (.cells (rowArr 69 fun i => .int .i64 (g i)) 24)) := (Below.refl _ _).alloc (Nat.le_refl _) _
  have hc := hr.cell (i := 64) (by omega)
  have hk := fun w1 => checked_any g hg (g 64) h0 h1 w1
  unfold intRow at hk ⊢
  replace hk := Lib.hid hk
  have hblk := Lib.hid (rowIs_block hr)
  clear hg hr
  go_enter Tryd.func7, Tryd.ntmps7
  go_wp2_with (first
    | (go_at_call 19; refine (hk.out _).mono ?_; rintro e w1 ⟨rfl, hb1⟩)
    | (refine wpList_load_row rfl 24 _ rfl w.heap.size rfl _ _ (0, 0) _ hblk.out Tryd.underlying24 rfl (by rw [infoPos', rowArr_size]) ?_))
  go_ret
  exact ⟨rfl, hb.trans (hb1.mono hb.size)⟩
end Go.Proofs.YthdbgjhonnogpaaDoor

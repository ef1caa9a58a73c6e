/- What the material suffices for: the contract of hasSufficientMaterial. -/
import Derived.Test.YtnlicbhelnocpaaDoorSqMap
import Derived.Test.YtnlicbhelnocpaaDoorCount
namespace Go.Proofs.YtnlicbhelnocpaaDoor
open Go.ChangeShapes Go.WideShapes Go.ChangeAt Go.RowKit Go.Maps
set_option maxHeartbeats 4000000
set_option linter.unusedVariables false
set_option linter.unusedSimpArgs false
attribute [local go_sem] bv_and bv_or bv_xor bv_sub bv_andc bv_orc bv_not

theorem bbs_zero {v : Nat → Int} {j : Nat} (h : ∀ s, s < 64 → v s ≠ (j : Int) + 1) : bbsOf v j = 0#64 := by
  apply BitVec.eq_of_getLsbD_eq
  intro i hi
  rw [show bbsOf v j = bbGo v ((j : Int) + 1) 64 from rfl, bbGo_bit v _ 64 (Nat.le_refl _) i hi]
  have := h (64 - 1 - i) (by omega)
  simp [this]
theorem bbs_pos {v : Nat → Int} {j s : Nat} (hs : s < 64) (h : v s = (j : Int) + 1) : bbsOf v j ≠ 0#64 := by
  intro e
  have := bbGo_bit v ((j : Int) + 1) 64 (Nat.le_refl _) (63 - s) (by omega)
  rw [show bbGo v ((j : Int) + 1) 64 = bbsOf v j from rfl, e] at this
  have e2 : 64 - 1 - (63 - s) = s := by omega
  rw [e2] at this
  simp [h] at this
  omega
theorem tn_pos {x : BitVec 64} (h : x ≠ 0#64) : 0 < tn x := by
  have h0 := tn_nonneg x
  rcases Int.lt_or_eq_of_le h0 with h1 | h1
  · exact h1
  · exact absurd (tn_inj (show tn x = tn 0#64 from h1.symm)) h

/-- A piece that suffices by itself. -/
def heavyP (x : Int) : Bool := x == 2 || x == 3 || x == 6 || x == 8 || x == 9 || x == 12
def knightP (x : Int) : Bool := x == 5 || x == 11
def bishopP (x : Int) : Bool := x == 4 || x == 10
def heavyX (v : Nat → Int) : BitVec 64 := bbsOf v 1 ||| bbsOf v 2 ||| bbsOf v 5 ||| bbsOf v 7 ||| bbsOf v 8 ||| bbsOf v 11
theorem heavyX_zero {v : Nat → Int} (h : ∀ s, s < 64 → heavyP (v s) = false) : heavyX v = 0#64 := by
  have key : ∀ j : Nat, heavyP ((j : Int) + 1) = true → bbsOf v j = 0#64 := fun j hj => bbs_zero fun s hs e => by
    have := h s hs; rw [e, hj] at this; cases this
  unfold heavyX
  rw [key 1 rfl, key 2 rfl, key 5 rfl, key 7 rfl, key 8 rfl, key 11 rfl]
  rfl
theorem heavyX_pos {v : Nat → Int} {s : Nat} (hs : s < 64) (h : heavyP (v s) = true) : heavyX v ≠ 0#64 := by
  intro e
  unfold heavyX at e
  simp only [BitVec.or_eq_zero_iff] at e
  obtain ⟨⟨⟨⟨⟨e1, e2⟩, e5⟩, e7⟩, e8⟩, e11⟩ := e
  simp only [heavyP, Bool.or_eq_true, beq_iff_eq] at h
  rcases h with ((((h | h) | h) | h) | h) | h
  · exact bbs_pos (j := 1) hs h e1
  · exact bbs_pos (j := 2) hs h e2
  · exact bbs_pos (j := 5) hs h e5
  · exact bbs_pos (j := 7) hs h e7
  · exact bbs_pos (j := 8) hs h e8
  · exact bbs_pos (j := 11) hs h e11

abbrev tKind : TypeId := 83
abbrev tCnt : TypeId := 125
/-- What the counts are while the squares for which 'left' says yes are still to come. -/
def kindCnt (v : Nat → Int) (left : Lit → Bool) (t : Int) : Nat := cnt (fun s => (v s != 0 && ptype (v s) == t) && !left (keySq s)) 64
def CMap (D : DataW Unit) (c : Int → Nat) : Prop := IsMap D ∧ ∀ t : Int, 0 ≤ t → t ≤ 6 → D.atKey (.int .i8 t) (.lit (.int .i64 0)) = .lit (.int .i64 (c t))
theorem CMap.put {D : DataW Unit} {c c' : Int → Nat} (h : CMap D c) (t : Int) (ht : c' t = c t + 1) (ho : ∀ u, u ≠ t → c' u = c u) : CMap (D.put (.int .i8 t) (.lit (.int .i64 ((c t : Int) + 1)))) c' := by
  have hl : WideAt.IsKeyLit (.int .i8 t) := trivial
  refine ⟨h.1.put _ _, fun u h0 h1 => ?_⟩
  by_cases e : u = t
  · subst e; rw [atKey_put_same h.1 hl, ht]; rfl
  · rw [atKey_put_other (by intro x; simp only [Lit.int.injEq, true_and] at x; exact e x), h.2 u h0 h1, ho u e]
theorem sameKey_sq (i j : Nat) : (keySq i).sameKey (keySq j) = (i == j) := by
  by_cases e : i = j
  · subst e; rw [WideAt.sameKey_self (show WideAt.IsKeyLit (keySq i) from trivial)]; simp
  · rw [sameKey_ne (fun h => e (keySq_inj h))]; simp [e]
theorem kindCnt_step {v : Nat → Int} {left : Lit → Bool} {s : Nat} (hs : s < 64) (hl : left (keySq s) = true) (hv : v s ≠ 0) :
    kindCnt v (fun z => left z && !z.sameKey (keySq s)) (ptype (v s)) = kindCnt v left (ptype (v s)) + 1 ∧ ∀ u, u ≠ ptype (v s) → kindCnt v (fun z => left z && !z.sameKey (keySq s)) u = kindCnt v left u := by
  constructor
  · refine cnt_flip (s := s) ?_ ?_ (fun j hj => ?_) hs
    · simp [hl]
    · simp [hv, sameKey_sq]
    · simp [sameKey_sq, show (j == s) = false by simpa using hj]
  · intro u hu
    refine cnt_congr fun i _ => ?_
    by_cases e : i = s
    · subst e
      have : (ptype (v i) == u) = false := by simpa using fun h => hu h.symm
      simp [this]
    · simp [sameKey_sq, show (i == s) = false by simpa using e]
theorem kindCnt_none {v : Nat → Int} {left : Lit → Bool} (h : ∀ kl, left kl = false) (t : Int) : kindCnt v left t = cnt (fun s => v s != 0 && ptype (v s) == t) 64 := by
  unfold kindCnt; exact cnt_congr fun i _ => by simp [h]
theorem kindCnt_all {v : Nat → Int} {D : DataW Unit} (h : PMap D v) (t : Int) : kindCnt v (Maps.has D) t = 0 := by
  unfold kindCnt
  refine cnt_zero.2 fun i hi => ?_
  rw [h.has i hi]
  cases (v i != 0) <;> simp

def selCnt (sel : Nat → Bool) (left : Lit → Bool) : Nat := cnt (fun s => sel s && !left (keySq s)) 64
theorem selCnt_yes {sel : Nat → Bool} {left : Lit → Bool} {s : Nat} (hs : s < 64) (hl : left (keySq s) = true) (hv : sel s = true) : selCnt sel (fun z => left z && !z.sameKey (keySq s)) = selCnt sel left + 1 := by
  refine cnt_flip (s := s) ?_ ?_ (fun j hj => ?_) hs
  · simp [hl]
  · simp [hv, sameKey_sq]
  · simp [sameKey_sq, show (j == s) = false by simpa using hj]
theorem selCnt_no {sel : Nat → Bool} {left : Lit → Bool} {s : Nat} (hv : sel s = false) : selCnt sel (fun z => left z && !z.sameKey (keySq s)) = selCnt sel left := by
  refine cnt_congr fun i _ => ?_
  by_cases e : i = s
  · subst e; simp [hv]
  · simp [sameKey_sq, show (i == s) = false by simpa using e]
theorem selCnt_none {sel : Nat → Bool} {left : Lit → Bool} (h : ∀ kl, left kl = false) : selCnt sel left = cnt sel 64 := by
  unfold selCnt; exact cnt_congr fun i _ => by simp [h]
theorem selCnt_all {v : Nat → Int} {D : DataW Unit} (h : PMap D v) {sel : Nat → Bool} (hsel : ∀ s, sel s = true → v s ≠ 0) : selCnt sel (Maps.has D) = 0 := by
  refine cnt_zero.2 fun i hi => ?_
  rw [h.has i hi]
  by_cases e : v i = 0
  · have : sel i = false := by
      by_cases hs : sel i = true
      · exact absurd e (hsel i hs)
      · simpa using hs
    simp [this]
  · simp [e]
def bishopSel (v : Nat → Int) (par : Nat) (s : Nat) : Bool := (v s != 0 && ptype (v s) == 4) && (s % 8 + s / 8) % 2 == par
theorem color_sq_any (s : Int) (h0 : 0 ≤ s) (h1 : s < 64) (w : World) :
    Calls Tryd.prog 84 #[.int .i8 s] w fun e w' => e = .returned (.int .i8 (if (s % 8 + s / 8) % 2 = 0 then 2 else 1)) ∧ w = w' := by
  have h : s = 0 ∨ s = 1 ∨ s = 2 ∨ s = 3 ∨ s = 4 ∨ s = 5 ∨ s = 6 ∨ s = 7 ∨ s = 8 ∨ s = 9 ∨ s = 10 ∨ s = 11 ∨ s = 12 ∨ s = 13 ∨ s = 14 ∨ s = 15 ∨ s = 16 ∨ s = 17 ∨ s = 18 ∨ s = 19 ∨ s = 20 ∨ s = 21 ∨ s = 22 ∨ s = 23 ∨ s = 24 ∨ s = 25 ∨ s = 26 ∨ s = 27 ∨ s = 28 ∨ s = 29 ∨ s = 30 ∨ s = 31 ∨ s = 32 ∨ s = 33 ∨ s = 34 ∨ s = 35 ∨ s = 36 ∨ s = 37 ∨ s = 38 ∨ s = 39 ∨ s = 40 ∨ s = 41 ∨ s = 42 ∨ s = 43 ∨ s = 44 ∨ s = 45 ∨ s = 46 ∨ s = 47 ∨ s = 48 ∨ s = 49 ∨ s = 50 ∨ s = 51 ∨ s = 52 ∨ s = 53 ∨ s = 54 ∨ s = 55 ∨ s = 56 ∨ s = 57 ∨ s = 58 ∨ s = 59 ∨ s = 60 ∨ s = 61 ∨ s = 62 ∨ s = 63 := by omega
  rcases h with rfl | rfl | rfl | rfl | rfl | rfl | rfl | rfl | rfl | rfl | rfl | rfl | rfl | rfl | rfl | rfl | rfl | rfl | rfl | rfl | rfl | rfl | rfl | rfl | rfl | rfl | rfl | rfl | rfl | rfl | rfl | rfl | rfl | rfl | rfl | rfl | rfl | rfl | rfl | rfl | rfl | rfl | rfl | rfl | rfl | rfl | rfl | rfl | rfl | rfl | rfl | rfl | rfl | rfl | rfl | rfl | rfl | rfl | rfl | rfl | rfl | rfl | rfl | rfl
  all_goals
    go_enter Tryd.func84, Tryd.ntmps84
    go_wp2
    go_ret
    exact ⟨rfl, rfl⟩
theorem color_sq0 (s : Nat) (h1 : s < 64) (h : (s % 8 + s / 8) % 2 = 0) (w : World) : Calls Tryd.prog 84 #[.int .i8 (s : Int)] w fun e w' => e = .returned (.int .i8 2) ∧ w = w' := by
  have := color_sq_any (s : Int) (by omega) (by omega) w
  rwa [if_pos (by omega)] at this
theorem color_sq1 (s : Nat) (h1 : s < 64) (h : (s % 8 + s / 8) % 2 = 1) (w : World) : Calls Tryd.prog 84 #[.int .i8 (s : Int)] w fun e w' => e = .returned (.int .i8 1) ∧ w = w' := by
  have := color_sq_any (s : Int) (by omega) (by omega) w
  rwa [if_neg (by omega)] at this

theorem zeroInt (w : World) : (zeroValue 3).run Tryd.prog w = .ok (.int .i64 0) w := by kernel_rfl
theorem wf_nat {n : Nat} (h : n ≤ 1000) : (Lit.int .i64 (n : Int)).wf = true := WalkArith.wf_i64 (by omega)
theorem CMap.at {D : DataW Unit} {c : Int → Nat} (h : CMap D c) (t : Int) (h0 : 0 ≤ t) (h1 : t ≤ 6) {x : Int} (hx : D.atKey (.int .i8 t) (.lit (.int .i64 0)) = .lit (.int .i64 x)) : x = c t := by
  have := (h.2 t h0 h1).symm.trans hx
  simp only [DataW.lit.injEq, Lit.int.injEq, true_and] at this
  exact this.symm
def SuffPost (b : Bool) (w : World) (e : Ending) (w' : World) : Prop := e = .returned (.bool b) ∧ Below w.heap.size w w'
set_option maxRecDepth 100000 in
theorem suff_heavy (g : Nat) (f : Nat → Value) (v : Nat → Int) (w : World) (h : w.rowIs g tBoard 17 f) (hf : ∀ j, j < 12 → f j = .int .u64 (tn (bbsOf v j))) {s : Nat} (hs : s < 64) (hh : heavyP (v s) = true) :
    Calls Tryd.prog 61 #[.pointer (some ⟨g, 0, none⟩)] w fun e w' => e = .returned (.bool true) ∧ Below w.heap.size w w' := by
  have hc : ∀ j, j < 12 → w.cell? ⟨g, j, none⟩ = some (.int .u64 (tn (bbsOf v j))) := fun j hj => by rw [h.cell (by omega), hf j hj]
  have c1 := hc 1 (by omega)
  have c2 := hc 2 (by omega)
  have c5 := hc 5 (by omega)
  have c7 := hc 7 (by omega)
  have c8 := hc 8 (by omega)
  have c11 := hc 11 (by omega)
  have hp : decide ((0 : Int) < tn (bbsOf v 1 ||| bbsOf v 2 ||| bbsOf v 5 ||| bbsOf v 7 ||| bbsOf v 8 ||| bbsOf v 11)) = true := by have := tn_pos (heavyX_pos hs hh); unfold heavyX at this; simpa using this
  clear hc h hf
  go_enter Tryd.func61, Tryd.ntmps61
  go_wp2
  go_quiet (fail)
  go_wp2
  go_ret
  exact ⟨rfl, ⟨rfl, rfl, rfl, Nat.le_refl _, fun _ _ => rfl⟩⟩
/-- What the program makes of the numbers of knights and bishops. -/
def kindTot (v : Nat → Int) (t : Int) : Nat := cnt (fun s => v s != 0 && ptype (v s) == t) 64
def suffV (v : Nat → Int) : Bool := if kindTot v 5 = 0 then (if kindTot v 4 ≤ 1 then false else cnt (bishopSel v 1) 64 != 0 && cnt (bishopSel v 0) 64 != 0) else !(kindTot v 5 == 1 && kindTot v 4 == 0)
def suffN (nk nb wh bl : Nat) : Bool := if nk = 0 then (if nb ≤ 1 then false else wh != 0 && bl != 0) else !(nk == 1 && nb == 0)
set_option maxRecDepth 100000 in
theorem suff_light (g : Nat) (f : Nat → Value) (v : Nat → Int) (hv : ∀ i, i < 64 → 0 ≤ v i ∧ v i ≤ 12) (w : World) (h : w.rowIs g tBoard 17 f) (hf : ∀ j, j < 12 → f j = .int .u64 (tn (bbsOf v j))) (hT : TabsP w) (hh : ∀ s, s < 64 → heavyP (v s) = false)
    (hk1 : bbsOf v 0 ≠ 0#64) (hk2 : bbsOf v 6 ≠ 0#64) :
    Calls Tryd.prog 61 #[.pointer (some ⟨g, 0, none⟩)] w fun e w' => e = .returned (.bool (suffV v)) ∧ Below w.heap.size w w' := by
  have hc : ∀ j, j < 12 → w.cell? ⟨g, j, none⟩ = some (.int .u64 (tn (bbsOf v j))) := fun j hj => by rw [h.cell (by omega), hf j hj]
  have c0 := hc 0 (by omega)
  have c1 := hc 1 (by omega)
  have c2 := hc 2 (by omega)
  have c5 := hc 5 (by omega)
  have c6 := hc 6 (by omega)
  have c7 := hc 7 (by omega)
  have c8 := hc 8 (by omega)
  have c11 := hc 11 (by omega)
  have hX := heavyX_zero hh
  have hp : decide ((0 : Int) < tn (bbsOf v 1 ||| bbsOf v 2 ||| bbsOf v 5 ||| bbsOf v 7 ||| bbsOf v 8 ||| bbsOf v 11)) = false := by unfold heavyX at hX; rw [hX]; rfl
  have k1 : (tn (bbsOf v 0) == 0) = false := by have := tn_pos hk1; simp; omega
  have k2 : (tn (bbsOf v 6) == 0) = false := by have := tn_pos hk2; simp; omega
  have hwd : ∀ n, (w.drewN n).rowIs g tBoard 17 f := fun n => h.of_block rfl
  have hTd : ∀ n, TabsP (w.drewN n) := fun n => hT.below ⟨rfl, rfl, rfl, Nat.le_refl _, fun _ _ => rfl⟩
  have hcalls := fun v0 h0 hT0 => squareMap_any g f v hv v0 h0 hf hT0
  have hmm := @run_makeMap Tryd.prog
  have hg := h.lt
  replace hcalls := Lib.hid hcalls
  replace hwd := Lib.hid hwd
  replace hTd := Lib.hid hTd
  replace hf := Lib.hid hf
  clear hc hX hk1 hk2 h hT
  go_enter Tryd.func61, Tryd.ntmps61
  go_wp2
  go_quiet (fail)
  clear hp c1 c2 c5 c7 c8 c11
  have hA1 : ((w.drewN nq).alloc (.map #[] 0)).rowIs g tBoard 17 f := (hwd.out nq).alloc _
  have hA2 : TabsP ((w.drewN nq).alloc (.map #[] 0)) := (hTd.out nq).below ((Below.refl _ _).alloc (Nat.le_refl _) _)
  have hA3 : ((w.drewN nq).alloc (.map #[] 0)).ownsMap Tryd.prog tKind (plainElem Tryd.prog 3) w.heap.size 0 (.map [] : DataW Unit) := World.ownsMap_made (w.drewN nq) _ _ _
  have hA4 : ((w.drewN nq).alloc (.map #[] 0)).heap.size = w.heap.size + 1 := by simp
  have hA5 : Below w.heap.size w ((w.drewN nq).alloc (.map #[] 0)) := (show Below w.heap.size w (w.drewN nq) from ⟨rfl, rfl, rfl, Nat.le_refl _, fun _ _ => rfl⟩).alloc (Nat.le_refl _) _
  have hcall : Calls Tryd.prog 82 #[.pointer (some ⟨g, 0, none⟩)] ((w.drewN nq).alloc (.map #[] 0)) fun e w' => ∃ n D, e = .returned (.map (some (w.heap.size + 1))) ∧ w'.ownsMap Tryd.prog tSq (plainElem Tryd.prog tPc) (w.heap.size + 1) n D ∧ n ≤ 64 ∧ PMap D v ∧ Below (w.heap.size + 1) ((w.drewN nq).alloc (.map #[] 0)) w' := by
    have := hcalls.out _ hA1 hA2
    unfold SqMapPost at this
    rw [hA4] at this
    exact this
  replace hA4 := Lib.hid hA4
  replace hcall := Lib.hid hcall
  clear hcalls hA1 hA2 hwd hTd
  go_wp2_with (first
    | (go_at_call 82; refine hcall.out.mono ?_; rintro e w2 ⟨n, D, rfl, hown, hn, hD, hb2⟩)
    | (at_range; refine wpList_range_own _ rfl _ tMap rfl tSq tPc (int_keyed Tryd.underlying57) Tryd.underlying92 _ (w.heap.size + 1) n _ rfl hown ?_; intro w3 hrg0 hg0 hs0))
  go_frame
  generalize hw1 : ((w.drewN nq).alloc (.map #[] 0)) = w1 at *
  clear hw1
  have hsz := ownsMap_size hown
  have hb3 : Below (w.heap.size + 1) w1 w3 := hb2.grown hg0 (by rw [← hA4.out]; exact hb2.size) (by intro r hr; cases hr)
  have hown3 : w3.ownsMap Tryd.prog tKind (plainElem Tryd.prog 3) w.heap.size 0 (.map [] : DataW Unit) := by
    obtain ⟨es, c, hb, h1⟩ := hA3
    exact ⟨es, c, (hb3.block _ (by omega)).trans hb, h1⟩
  have hB3 : Below w.heap.size w w3 := hA5.trans (hb3.mono (by omega))
  have hC0 : CMap (.map [] : DataW Unit) (kindCnt v (Maps.has D)) := ⟨isMap_empty, fun t _ _ => by rw [kindCnt_all hD]; rfl⟩
  have hs2 : w.heap.size + 1 + 1 ≤ w2.heap.size := hown.lt
  replace hs0 := Lib.hid hs0
  clear hown hg0 hb2 hA3 hA5 hcall hf c0 c6 k1 k2
  go_loopw [6] (fun _ wr => ∃ (left : Lit → Bool) (c k : Nat) (Dc : DataW Unit), wr.ranges Tryd.prog tSq (plainElem Tryd.prog tPc) (w.heap.size + 1) w2.heap.size n D left c ∧ (∀ kl, left kl = true → Maps.has D kl = true) ∧ k + c ≤ Maps.size D ∧ wr.ownsMap Tryd.prog tKind (plainElem Tryd.prog 3) w.heap.size k Dc ∧ CMap Dc (kindCnt v left) ∧ Below w.heap.size w wr ∧ w3.heap.size ≤ wr.heap.size)
    (fun _ wr => wr.rangeLeft (w.heap.size + 1) w2.heap.size)
  case atStart => exact ⟨_, _, 0, _, hrg0, fun _ h => h, by omega, hown3, hC0, hB3, Nat.le_refl _⟩
  case round =>
    clear hown3 hC0 hB3 hrg0
    obtain ⟨left, c, k, Dc, hrg, hleft, hkc, hownc, hC, hB, hb4s⟩ := hrel
    replace hb4s := Lib.hid hb4s
    replace hleft := Lib.hid hleft
    go_wp2_with (at_next; refine wpList_next_ranges_ii _ rfl _ rfl tSq tPc .i8 .i8 (int_keyed Tryd.underlying57) Tryd.underlying57 Tryd.underlying67 (w.heap.size + 1) w2.heap.size n _ _ _ rfl hrg ?_ ?_)
    · intro _ hl0
      have hC' : CMap Dc (kindTot v) := ⟨hC.1, fun t h0 h1 => by rw [hC.2 t h0 h1, kindCnt_none hl0]; rfl⟩
      obtain ⟨x4, hrun4, hat4, _⟩ := hownc.lookup_int (int_keyed Tryd.underlying83) Tryd.underlying125 Tryd.underlying3 (zeroInt _) (keyOf_int_mk Tryd.underlying83 (wf_i8 (n := 4) (by omega) (by omega)))
      obtain rfl := hC'.at 4 (by omega) (by omega) hat4
      obtain ⟨x5, hrun5, hat5, _⟩ := hownc.lookup_int (int_keyed Tryd.underlying83) Tryd.underlying125 Tryd.underlying3 (zeroInt _) (keyOf_int_mk Tryd.underlying83 (wf_i8 (n := 5) (by omega) (by omega)))
      obtain rfl := hC'.at 5 (by omega) (by omega) hat5
      have hown4 := hrg.owns
      have hV : suffV v = if kindTot v 5 = 0 then (if kindTot v 4 ≤ 1 then false else cnt (bishopSel v 1) 64 != 0 && cnt (bishopSel v 0) 64 != 0) else !(kindTot v 5 == 1 && kindTot v 4 == 0) := rfl
      clear hat4 hat5 hC hC' hownc hrg hleft
      generalize kindTot v 4 = nb at *
      generalize kindTot v 5 = nk at *
      replace hV := Lib.hid hV
      clear hh hl0 hmm
      have hs3 : w2.heap.size + 1 ≤ wr.heap.size := by have := hb4s.out; have := hs0.out; omega
      by_cases hsec : nk = 0 ∧ 2 ≤ nb
      · obtain ⟨hk0, hn2⟩ := hsec
        obtain ⟨wo, rfl⟩ : ∃ wo : World, wo = wr := ⟨_, rfl⟩
        have h40 : ((nb : Int) == 0) = false := by simp; omega
        have h41 : ((nb : Int) == 1) = false := by simp; omega
        have h50 : ((nk : Int) == 0) = true := by simp; omega
        have h51 : ((nk : Int) == 1) = false := by simp; omega
        replace hV : Hid (suffV v = (cnt (bishopSel v 1) 64 != 0 && cnt (bishopSel v 0) 64 != 0)) := Lib.hid (by rw [hV.out, if_pos hk0, if_neg (by omega)])
        clear hk0
        go_wp2_with (at_range; refine wpList_range_own _ rfl _ tMap rfl tSq tPc (int_keyed Tryd.underlying57) Tryd.underlying92 _ (w.heap.size + 1) n _ rfl hown4 ?_; intro w5 hrg5 hg5 hs5)
        go_frame
        have hB5 : Below w.heap.size w w5 := hB.grown hg5 hB.size (by intro r hr; cases hr)
        have hz0 : selCnt (bishopSel v 0) (Maps.has D) = 0 := selCnt_all hD fun s hs => by simp only [bishopSel, Bool.and_eq_true, bne_iff_ne] at hs; exact hs.1.1
        have hz1 : selCnt (bishopSel v 1) (Maps.has D) = 0 := selCnt_all hD fun s hs => by simp only [bishopSel, Bool.and_eq_true, bne_iff_ne] at hs; exact hs.1.1
        replace hs5 := Lib.hid hs5
        replace hz0 := Lib.hid hz0
        replace hz1 := Lib.hid hz1
        clear hown4 hg5 h40 h41 h50 h51 hrun4 hrun5
        go_loopw [7, 8] (fun a b ws => ∃ (left : Lit → Bool) (c : Nat), ws.ranges Tryd.prog tSq (plainElem Tryd.prog tPc) (w.heap.size + 1) wo.heap.size n D left c ∧ (∀ kl, left kl = true → Maps.has D kl = true) ∧ a = .int .i64 (selCnt (bishopSel v 1) left : Nat) ∧ b = .int .i64 (selCnt (bishopSel v 0) left : Nat) ∧ Below w.heap.size w ws)
          (fun _ _ ws => ws.rangeLeft (w.heap.size + 1) wo.heap.size)
        case atStart => exact ⟨_, _, hrg5, fun _ h => h, by rw [hz1.out]; rfl, by rw [hz0.out]; rfl, hB5⟩
        case round =>
          clear hrg5 hB5
          obtain ⟨left, c, hrg, hleft, rfl, rfl, hB⟩ := hrel
          replace hleft := Lib.hid hleft
          have l0 : selCnt (bishopSel v 0) left ≤ 64 := cnt_le _ _
          have l1 : selCnt (bishopSel v 1) left ≤ 64 := cnt_le _ _
          go_wp2_with (at_next; refine wpList_next_ranges_ii _ rfl _ rfl tSq tPc .i8 .i8 (int_keyed Tryd.underlying57) Tryd.underlying57 Tryd.underlying67 (w.heap.size + 1) wo.heap.size n _ _ _ rfl hrg ?_ ?_)
          · intro _ hl0
            have e0 := selCnt_none (sel := bishopSel v 0) hl0
            have e1 := selCnt_none (sel := bishopSel v 1) hl0
            rw [e0] at l0
            rw [e1] at l1
            rw [e0, e1]
            clear hl0 e0 e1 hrg hleft
            generalize cnt (bishopSel v 0) 64 = b0 at *
            generalize cnt (bishopSel v 1) 64 = b1 at *
            cases h1 : ((b1 : Int) == 0) <;> cases h0 : ((b0 : Int) == 0)
            all_goals
              go_wp2
              go_ret
              refine ⟨ret_bool ?_, hB⟩
              rw [hV.out, Bool.eq_iff_iff]
              simp at h1 h0 ⊢
              omega
          · intro x y w6 c6 hwx hwy hlx hat hrg6 hlt hg6 hs6 hen
            obtain ⟨s, hs, hxs⟩ := hD.key _ (hleft.out _ hlx)
            obtain rfl : x = (s : Int) := by simp only [keySq, Lit.int.injEq, true_and] at hxs; exact hxs
            have hvs : v s ≠ 0 := by
              have h1 := hD.has s hs; have h2 : Maps.has D (keySq s) = true := hleft.out _ hlx; rw [h2] at h1; simpa using h1.symm
            obtain rfl : y = v s := by
              have := (hat (.lit (.int .i8 0))).symm.trans (hD.at_ s hs hvs _)
              simp only [DataW.lit.injEq, Lit.int.injEq, true_and] at this
              exact this
            have hvr := hv s hs
            have hty := Lib.hid fun v0 => type_any (v s) (by omega) (by omega) v0
            have hB6 : Below w.heap.size w w6 := hB.grown hg6 hB.size (by intro r hr; cases hr; omega)
            have hleft' : ∀ kl, (left kl && !kl.sameKey (.int .i8 (s : Int))) = true → Maps.has D kl = true := fun kl h => hleft.out kl (by simp only [Bool.and_eq_true] at h; exact h.1)
            have hm : w6.rangeLeft (w.heap.size + 1) wo.heap.size < wr.rangeLeft (w.heap.size + 1) wo.heap.size := by rw [hrg6.left_eq, hrg.left_eq]; exact hlt
            have hpar : (s % 8 + s / 8) % 2 = 0 ∨ (s % 8 + s / 8) % 2 = 1 := by omega
            have y0 := fun h => selCnt_yes (sel := bishopSel v 0) hs hlx h
            have y1 := fun h => selCnt_yes (sel := bishopSel v 1) hs hlx h
            have n0 := fun h => selCnt_no (sel := bishopSel v 0) (left := left) (s := s) h
            have n1 := fun h => selCnt_no (sel := bishopSel v 1) (left := left) (s := s) h
            replace y0 := Lib.hid y0
            replace y1 := Lib.hid y1
            replace n0 := Lib.hid n0
            replace n1 := Lib.hid n1
            replace hleft' := Lib.hid hleft'
            have hcol0 := Lib.hid fun h v0 => color_sq0 s hs h v0
            have hcol1 := Lib.hid fun h v0 => color_sq1 s hs h v0
            replace hrg6 := Lib.hid hrg6
            replace hpar := Lib.hid hpar
            clear hxs hvr hwx hwy hat hlx hrg
            by_cases hb4 : ptype (v s) = 4
            · have hb : (v s != 0 && ptype (v s) == 4) = true := by simp [hvs, hb4]
              rcases hpar.out with hp | hp
              · have t0 : bishopSel v 0 s = true := by unfold bishopSel; rw [hb, hp]; rfl
                have t1 : bishopSel v 1 s = false := by unfold bishopSel; rw [hb, hp]; rfl
                replace hp := Lib.hid hp
                have hbe : (ptype (v s) == 4) = true := by simp [hb4]
                have z0 := Lib.hid (y0.out t0)
                have z1 := Lib.hid (n1.out t1)
                clear hb t0 t1 hb4 hvs
                generalize ptype (v s) = pt at *
                generalize ha : selCnt (bishopSel v 0) left = a0 at *
                clear ha
                go_wp2_with (first | (go_at_call 83; refine (hty.out _).mono ?_; rintro e w' ⟨rfl, rfl⟩) | (go_at_call 84; refine (hcol0.out hp.out _).mono ?_; rintro e w' ⟨rfl, rfl⟩))
                go_roundw
                case rel => exact ⟨_, c6, hrg6.out, hleft'.out, (congrArg (fun m : Nat => Value.int .i64 (m : Int)) z1.out).symm, (by refine Eq.trans ?_ (congrArg (fun m : Nat => Value.int .i64 (m : Int)) z0.out).symm; go_num), hB6⟩
                case measure => exact hm
              · have t0 : bishopSel v 0 s = false := by unfold bishopSel; rw [hb, hp]; rfl
                have t1 : bishopSel v 1 s = true := by unfold bishopSel; rw [hb, hp]; rfl
                replace hp := Lib.hid hp
                have hbe : (ptype (v s) == 4) = true := by simp [hb4]
                have z0 := Lib.hid (n0.out t0)
                have z1 := Lib.hid (y1.out t1)
                clear hb t0 t1 hb4 hvs
                generalize ptype (v s) = pt at *
                generalize ha : selCnt (bishopSel v 1) left = a0 at *
                clear ha
                go_wp2_with (first | (go_at_call 83; refine (hty.out _).mono ?_; rintro e w' ⟨rfl, rfl⟩) | (go_at_call 84; refine (hcol1.out hp.out _).mono ?_; rintro e w' ⟨rfl, rfl⟩))
                go_roundw
                case rel => exact ⟨_, c6, hrg6.out, hleft'.out, (by refine Eq.trans ?_ (congrArg (fun m : Nat => Value.int .i64 (m : Int)) z1.out).symm; go_num), (congrArg (fun m : Nat => Value.int .i64 (m : Int)) z0.out).symm, hB6⟩
                case measure => exact hm
            · have hb : (v s != 0 && ptype (v s) == 4) = false := by simp [hb4]
              have z0 := Lib.hid (n0.out (by unfold bishopSel; rw [hb]; rfl))
              have z1 := Lib.hid (n1.out (by unfold bishopSel; rw [hb]; rfl))
              have hbe : (ptype (v s) == 4) = false := by simp [hb4]
              clear hb hb4 hvs
              generalize ptype (v s) = pt at *
              go_wp2_with (first | (go_at_call 83; refine (hty.out _).mono ?_; rintro e w' ⟨rfl, rfl⟩))
              go_roundw
              case rel => exact ⟨_, c6, hrg6.out, hleft'.out, (congrArg (fun m : Nat => Value.int .i64 (m : Int)) z1.out).symm, (congrArg (fun m : Nat => Value.int .i64 (m : Int)) z0.out).symm, hB6⟩
              case measure => exact hm
      · cases h40 : ((nb : Int) == 0) <;> cases h41 : ((nb : Int) == 1) <;> cases h50 : ((nk : Int) == 0) <;> cases h51 : ((nk : Int) == 1)
        all_goals try (exfalso; simp only [beq_iff_eq] at h40 h41; omega)
        all_goals try (exfalso; simp only [beq_iff_eq] at h50 h51; omega)
        all_goals try (exfalso; simp at h40 h41 h50; omega)
        all_goals
          go_wp2
          go_ret
          refine ⟨ret_bool ?_, hB⟩
          rw [hV.out]
          simp at h40 h41 h50 h51
          by_cases hk : nk = 0
          · have hn : nb ≤ 1 := by omega
            first | (rw [if_pos hk, if_pos hn]; done) | (exfalso; omega)
          · rw [if_neg hk, Bool.eq_iff_iff]
            simp
            try omega
    · intro x y w4 c4 hwx hwy hlx hat hrg4 hlt hg4 hs4 hen
      obtain ⟨s, hs, hxs⟩ := hD.key _ (hleft.out _ hlx)
      obtain rfl : x = (s : Int) := by simp only [keySq, Lit.int.injEq, true_and] at hxs; exact hxs
      have hvs : v s ≠ 0 := by
        have h1 := hD.has s hs; have h2 : Maps.has D (keySq s) = true := hleft.out _ hlx; rw [h2] at h1; simpa using h1.symm
      obtain rfl : y = v s := by
        have := (hat (.lit (.int .i8 0))).symm.trans (hD.at_ s hs hvs _)
        simp only [DataW.lit.injEq, Lit.int.injEq, true_and] at this
        exact this
      have hvr := hv s hs
      have hp1 : 1 ≤ ptype (v s) ∧ ptype (v s) ≤ 6 := by unfold ptype; split <;> omega
      obtain ⟨hst1, hst2⟩ := kindCnt_step hs hlx hvs
      have hle : kindCnt v left (ptype (v s)) ≤ 64 := cnt_le _ _
      have hownc4 := hownc.kept hg4 (by intro e; have := Option.some.inj e; omega)
      have hty := Lib.hid fun v0 => type_any (v s) (by omega) (by omega) v0
      have hCp := fun (c' : Int → Nat) h1 h2 => hC.put (c' := c') (ptype (v s)) h1 h2
      replace hCp := Lib.hid (hCp _ hst1 hst2)
      have hCa : ∀ x : Int, Dc.atKey (.int .i8 (ptype (v s))) (.lit (.int .i64 0)) = .lit (.int .i64 x) → x = kindCnt v left (ptype (v s)) := fun x hx => hC.at (ptype (v s)) (by omega) (by omega) hx
      replace hCa := Lib.hid hCa
      have hwt := Lib.hid (wf_i8 (n := ptype (v s)) (by omega) (by omega))
      have hwc := Lib.hid (wf_nat (n := kindCnt v left (ptype (v s)) + 1) (by omega))
      clear hst1 hst2 hC hxs hvs hvr hwx hwy hat
      generalize hpt : ptype (v s) = pt at *
      generalize hkc' : kindCnt v left pt = kc at *
      clear hpt hkc'
      go_wp2_with (first
        | (go_at_call 83; refine (hty.out _).mono ?_; rintro e w' ⟨rfl, rfl⟩)
        | (at_lookup; refine wpList_lookup_own_int _ rfl _ _ tCnt rfl tKind 3 .i64 (int_keyed Tryd.underlying83) Tryd.underlying125 Tryd.underlying3 (zeroInt _) w.heap.size k _ rfl hownc4 _ _ rfl (keyOf_int_mk Tryd.underlying83 hwt.out) ?_; intro c5 hc5 hwc5; obtain rfl := hCa.out _ hc5)
        | (at_mapUpdate; refine wpList_mapUpdate_own _ rfl _ _ _ tCnt rfl tKind 3 (int_keyed Tryd.underlying83) Tryd.underlying125 _ w.heap.size k _ rfl hownc4 (by unfold maxLen; omega) _ _ _ rfl rfl (keyOf_int_mk Tryd.underlying83 hwt.out) _ [] (plainElem_int Tryd.underlying3 hwc.out) ?_; intro w5 hown5 hg5; go_frame))
      have hleft' : ∀ kl, (left kl && !kl.sameKey (.int .i8 (s : Int))) = true → Maps.has D kl = true := fun kl h => hleft.out kl (by simp only [Bool.and_eq_true] at h; exact h.1)
      have hB5 : Below w.heap.size w w5 := (hB.grown hg4 hB.size (by intro r hr; cases hr; omega)).grown hg5 (by have := hB.size; omega) (by intro r hr; cases hr; exact Nat.le_refl _)
      have hrg5 := hrg4.kept hg5 (by intro e; have := Option.some.inj e; omega) (by intro e; have := Option.some.inj e; omega)
      go_roundw
      case rel => exact ⟨_, c4, k + 1, _, hrg5, hleft', by omega, hown5, hCp.out, hB5, by have := hb4s.out; have := hg5.size; omega⟩
      case measure => rw [hrg5.left_eq, hrg.left_eq]; exact hlt
end Go.Proofs.YtnlicbhelnocpaaDoor

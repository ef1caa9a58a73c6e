/- The lexer: tests of a byte; a byte on; over blanks. -/
import Derived.Test.YtlcdhahnngfjhaaDoorLxA
namespace Go.Proofs.YtlcdhahnngfjhaaDoor
open Go.ChangeShapes Go.WideShapes Go.ChangeAt Go.RowKit Go.PlainAid
set_option maxHeartbeats 1000000
set_option linter.unusedVariables false
set_option linter.unusedSimpArgs false
attribute [local go_sem] tx_list tx_size bt_tx

def isD (c : Nat) : Bool := decide (48 ≤ c) && decide (c ≤ 57)
def isRk (c : Nat) : Bool := decide (49 ≤ c) && decide (c ≤ 56)
def isFl (c : Nat) : Bool := decide (97 ≤ c) && decide (c ≤ 104)
def isLt (c : Nat) : Bool := (decide (97 ≤ c) && decide (c ≤ 122)) || (decide (65 ≤ c) && decide (c ≤ 90))
def isAn (c : Nat) : Bool := isLt c || isD c
def isPc (c : Nat) : Bool := (((c == 78 || c == 66) || c == 82) || c == 81) || c == 75
def isWs (c : Nat) : Bool := ((c == 32 || c == 9) || c == 10) || c == 13
theorem ieq (c : Nat) (k : Nat) : ((c : Int) == (k : Int)) = (c == k) := by
  by_cases h : c = k
  · subst h; simp
  · have h2 : ¬ (c : Int) = (k : Int) := by omega
    rw [beq_eq_false_iff_ne.2 h, beq_eq_false_iff_ne.2 h2]
theorem isDigit_any (c : Nat) (w : World) : Calls Tryd.prog 35 #[.int .u8 (c : Int)] w fun e w' => e = .returned (.bool (isD c)) ∧ w = w' := by
  unfold isD
  by_cases a : 48 ≤ c
  · have a1 : decide ((48 : Int) ≤ (c : Int)) = true := decide_eq_true (by omega)
    have a2 : decide ((c : Int) ≥ 48) = true := a1
    rw [decide_eq_true a]
    by_cases b : c ≤ 57
    · have b1 : decide ((c : Int) ≤ 57) = true := decide_eq_true (by omega)
      rw [decide_eq_true b]
      go_enter Tryd.func35, Tryd.ntmps35
      go_wp2
      go_ret
      exact ⟨rfl, rfl⟩
    · have b1 : decide ((c : Int) ≤ 57) = false := decide_eq_false (by omega)
      rw [decide_eq_false b]
      go_enter Tryd.func35, Tryd.ntmps35
      go_wp2
      go_ret
      exact ⟨rfl, rfl⟩
  · have a1 : decide ((48 : Int) ≤ (c : Int)) = false := decide_eq_false (by omega)
    have a2 : decide ((c : Int) ≥ 48) = false := a1
    rw [decide_eq_false a]
    go_enter Tryd.func35, Tryd.ntmps35
    go_wp2
    go_ret
    exact ⟨rfl, rfl⟩
theorem isRank_any (c : Nat) (w : World) : Calls Tryd.prog 49 #[.int .u8 (c : Int)] w fun e w' => e = .returned (.bool (isRk c)) ∧ w = w' := by
  unfold isRk
  by_cases a : 49 ≤ c
  · have a1 : decide ((49 : Int) ≤ (c : Int)) = true := decide_eq_true (by omega)
    have a2 : decide ((c : Int) ≥ 49) = true := a1
    rw [decide_eq_true a]
    by_cases b : c ≤ 56
    · have b1 : decide ((c : Int) ≤ 56) = true := decide_eq_true (by omega)
      rw [decide_eq_true b]
      go_enter Tryd.func49, Tryd.ntmps49
      go_wp2
      go_ret
      exact ⟨rfl, rfl⟩
    · have b1 : decide ((c : Int) ≤ 56) = false := decide_eq_false (by omega)
      rw [decide_eq_false b]
      go_enter Tryd.func49, Tryd.ntmps49
      go_wp2
      go_ret
      exact ⟨rfl, rfl⟩
  · have a1 : decide ((49 : Int) ≤ (c : Int)) = false := decide_eq_false (by omega)
    have a2 : decide ((c : Int) ≥ 49) = false := a1
    rw [decide_eq_false a]
    go_enter Tryd.func49, Tryd.ntmps49
    go_wp2
    go_ret
    exact ⟨rfl, rfl⟩
theorem isFile_any (c : Nat) (w : World) : Calls Tryd.prog 51 #[.int .u8 (c : Int)] w fun e w' => e = .returned (.bool (isFl c)) ∧ w = w' := by
  unfold isFl
  by_cases a : 97 ≤ c
  · have a1 : decide ((97 : Int) ≤ (c : Int)) = true := decide_eq_true (by omega)
    have a2 : decide ((c : Int) ≥ 97) = true := a1
    rw [decide_eq_true a]
    by_cases b : c ≤ 104
    · have b1 : decide ((c : Int) ≤ 104) = true := decide_eq_true (by omega)
      rw [decide_eq_true b]
      go_enter Tryd.func51, Tryd.ntmps51
      go_wp2
      go_ret
      exact ⟨rfl, rfl⟩
    · have b1 : decide ((c : Int) ≤ 104) = false := decide_eq_false (by omega)
      rw [decide_eq_false b]
      go_enter Tryd.func51, Tryd.ntmps51
      go_wp2
      go_ret
      exact ⟨rfl, rfl⟩
  · have a1 : decide ((97 : Int) ≤ (c : Int)) = false := decide_eq_false (by omega)
    have a2 : decide ((c : Int) ≥ 97) = false := a1
    rw [decide_eq_false a]
    go_enter Tryd.func51, Tryd.ntmps51
    go_wp2
    go_ret
    exact ⟨rfl, rfl⟩
theorem isLetter_any (c : Nat) (w : World) : Calls Tryd.prog 25 #[.int .u8 (c : Int)] w fun e w' => e = .returned (.bool (isLt c)) ∧ w = w' := by
  have h4 : ∀ (p q r s : Bool), decide ((97 : Int) ≤ (c : Int)) = p → decide ((c : Int) ≤ 122) = q → decide ((65 : Int) ≤ (c : Int)) = r → decide ((c : Int) ≤ 90) = s → Calls Tryd.prog 25 #[.int .u8 (c : Int)] w fun e w' => e = .returned (.bool ((p && q) || (r && s))) ∧ w = w' := by
    intro p q r s h1 h2 h3 h4
    cases p <;> cases q <;> cases r <;> cases s
    all_goals
      go_enter Tryd.func25, Tryd.ntmps25
      go_wp2
      go_ret
      exact ⟨rfl, rfl⟩
  refine h4 _ _ _ _ ?_ ?_ ?_ ?_ <;> (apply decide_eq_decide.2; omega)
theorem isPiece_any (c : Nat) (w : World) : Calls Tryd.prog 46 #[.int .u8 (c : Int)] w fun e w' => e = .returned (.bool (isPc c)) ∧ w = w' := by
  have h5 : ∀ (p q r s t : Bool), ((c : Int) == 78) = p → ((c : Int) == 66) = q → ((c : Int) == 82) = r → ((c : Int) == 81) = s → ((c : Int) == 75) = t → Calls Tryd.prog 46 #[.int .u8 (c : Int)] w fun e w' => e = .returned (.bool ((((p || q) || r) || s) || t)) ∧ w = w' := by
    intro p q r s t h1 h2 h3 h4 h5
    cases p
    · cases q
      · cases r
        · cases s
          · cases t
            all_goals
              go_enter Tryd.func46, Tryd.ntmps46
              go_wp2
              go_ret
              exact ⟨rfl, rfl⟩
          · go_enter Tryd.func46, Tryd.ntmps46
            go_wp2
            go_ret
            exact ⟨rfl, rfl⟩
        · go_enter Tryd.func46, Tryd.ntmps46
          go_wp2
          go_ret
          exact ⟨rfl, rfl⟩
      · go_enter Tryd.func46, Tryd.ntmps46
        go_wp2
        go_ret
        exact ⟨rfl, rfl⟩
    · go_enter Tryd.func46, Tryd.ntmps46
      go_wp2
      go_ret
      exact ⟨rfl, rfl⟩
  exact h5 _ _ _ _ _ (ieq c 78) (ieq c 66) (ieq c 82) (ieq c 81) (ieq c 75)
theorem readChar_any (gl : Nat) (L : List UInt8) (p : Nat) (f : Fl) (hL : L.length ≤ 1000000) (hp : p ≤ 1000000) (w : World) (h : LexAt gl L p f w) :
    Calls Tryd.prog 20 #[.pointer (some ⟨gl, 0, none⟩)] w fun e w' => e = .returned (.tuple #[]) ∧ LexAt gl L (p + 1) f w' ∧ Lx gl w w' :=
  readChar_raw gl L _ _ (p + 1) f hL (by omega) w h
/-- A lexer's cells. -/
theorem LexAt.cells {gl : Nat} {L : List UInt8} {p : Nat} {f : Fl} {w : World} (h : LexAt gl L p f w) :
    w.cell? ⟨gl, 0, none⟩ = some (.string (tx L)) ∧ w.cell? ⟨gl, 1, none⟩ = some (.int .i64 (p : Int)) ∧ w.cell? ⟨gl, 2, none⟩ = some (.int .i64 ((p : Int) + 1)) ∧ w.cell? ⟨gl, 3, none⟩ = some (.int .u8 (chAt L p : Nat)) ∧
    w.cell? ⟨gl, 4, none⟩ = some (.bool f.tag) ∧ w.cell? ⟨gl, 5, none⟩ = some (.bool f.comment) ∧ w.cell? ⟨gl, 6, none⟩ = some (.bool f.command) ∧ w.cell? ⟨gl, 7, none⟩ = some (.bool f.param) :=
  ⟨World.rowIs.cell h (i := 0) (by omega), World.rowIs.cell h (i := 1) (by omega), World.rowIs.cell h (i := 2) (by omega), World.rowIs.cell h (i := 3) (by omega), World.rowIs.cell h (i := 4) (by omega), World.rowIs.cell h (i := 5) (by omega), World.rowIs.cell h (i := 6) (by omega), World.rowIs.cell h (i := 7) (by omega)⟩
/-- The first place from p on whose byte fails a test. -/
def scanN (t : Nat → Bool) (L : List UInt8) : Nat → Nat → Nat
  | 0, p => p
  | n + 1, p => if t (chAt L p) = true then scanN t L n (p + 1) else p
def scan (t : Nat → Bool) (L : List UInt8) (p : Nat) : Nat := scanN t L (L.length - p) p
theorem scan_step {t : Nat → Bool} (h0 : t 0 = false) (L : List UInt8) (p : Nat) : scan t L p = if t (chAt L p) = true then scan t L (p + 1) else p := by
  unfold scan
  by_cases h : p < L.length
  · rw [show L.length - p = (L.length - (p + 1)) + 1 by omega]; rfl
  · rw [show L.length - p = 0 by omega, show L.length - (p + 1) = 0 by omega, chAt_end L p (by omega), h0]; rfl
theorem scanN_le (t : Nat → Bool) (L : List UInt8) : ∀ n p, p ≤ scanN t L n p ∧ scanN t L n p ≤ p + n
  | 0, p => ⟨Nat.le_refl _, Nat.le_refl _⟩
  | n + 1, p => by
    unfold scanN
    have := scanN_le t L n (p + 1)
    split <;> omega
theorem scan_le (t : Nat → Bool) (L : List UInt8) (p : Nat) (h : p ≤ L.length) : p ≤ scan t L p ∧ scan t L p ≤ L.length := by
  have := scanN_le t L (L.length - p) p
  unfold scan; omega
theorem in_text {t : Nat → Bool} (h0 : t 0 = false) {L : List UInt8} {p : Nat} (h : t (chAt L p) = true) : p < L.length := by
  rcases Nat.lt_or_ge p L.length with h1 | h1
  · exact h1
  · rw [chAt_end L p h1, h0] at h; cases h
def posOf (gl : Nat) (w : World) : Nat := match w.cell? ⟨gl, 1, none⟩ with | some (.int _ v) => v.toNat | _ => 0
theorem LexAt.pos {gl : Nat} {L : List UInt8} {p : Nat} {f : Fl} {w : World} (h : LexAt gl L p f w) : posOf gl w = p := by
  unfold posOf; rw [h.cells.2.1]; simp
set_option maxRecDepth 100000 in
theorem skip_any (gl : Nat) (L : List UInt8) (p : Nat) (f : Fl) (hL : L.length ≤ 1000000) (hp : p ≤ L.length) (w : World) (h : LexAt gl L p f w) :
    Calls Tryd.prog 21 #[.pointer (some ⟨gl, 0, none⟩)] w fun e w' => e = .returned (.tuple #[]) ∧ LexAt gl L (scan isWs L p) f w' ∧ Lx gl w w' := by
  have hk : ∀ (p q r s : Bool) (c : Nat), ((c : Int) == 32) = p → ((c : Int) == 9) = q → ((c : Int) == 10) = r → ((c : Int) == 13) = s → isWs c = (((p || q) || r) || s) := by
    intro p q r s c h1 h2 h3 h4
    subst h1; subst h2; subst h3; subst h4
    rw [show (32 : Int) = ((32 : Nat) : Int) from rfl, show (9 : Int) = ((9 : Nat) : Int) from rfl, show (10 : Int) = ((10 : Nat) : Int) from rfl, show (13 : Int) = ((13 : Nat) : Int) from rfl, ieq, ieq, ieq, ieq]
    rfl
  replace hk := Lib.hid hk
  obtain ⟨E, hE⟩ : ∃ E, E = scan isWs L p := ⟨_, rfl⟩
  rw [← hE]
  go_enter Tryd.func21, Tryd.ntmps21
  go_wp2_with (fail)
  go_loopw [] (fun wr => ∃ q : Nat, q ≤ L.length ∧ E = scan isWs L q ∧ LexAt gl L q f wr ∧ Lx gl w wr) (fun wr => L.length + 1 - posOf gl wr)
  case atStart => exact ⟨p, hp, hE, h, Lx.refl _ _⟩
  case round =>
    obtain ⟨q, hq, hs, hr, hx⟩ := hrel
    have hpos := hr.pos
    have c3 := hr.cells.2.2.2.1
    have hsc := scan_step (t := isWs) rfl L q
    have hin := @in_text isWs rfl L q
    have hrd := readChar_any gl L q f hL (by omega) wr hr
    replace hrd := Lib.hid hrd
    replace hr := Lib.hid hr
    replace hx := Lib.hid hx
    replace hs := Lib.hid hs
    replace hsc := Lib.hid hsc
    clear h hE
    generalize chAt L q = C at *
    cases h1 : ((C : Int) == 32)
    · cases h2 : ((C : Int) == 9)
      · cases h3 : ((C : Int) == 10)
        · cases h4 : ((C : Int) == 13)
          · have hw := hk.out _ _ _ _ _ h1 h2 h3 h4
            have hE : E = q := by rw [hs.out, hsc.out, hw]; rfl
            replace hE := Lib.hid hE
            go_wp2_with (fail)
            first | go_end0 | refine bodyPost_ret (results_none rfl _ _ _) rfl ?_
            rw [hE.out]
            exact ⟨rfl, hr.out, hx.out⟩
          · have hw : isWs C = true := by
              have e : C = 13 := by have := eq_of_beq h4; omega
              subst e; rfl
            have hE : E = scan isWs L (q + 1) := by rw [hs.out, hsc.out, hw]; rfl
            have hql := hin hw
            replace hE := Lib.hid hE
            go_wp2_with (go_at_call 20; refine hrd.out.mono ?_; rintro e w2 ⟨rfl, hr2, hx2⟩; have hpos2 := hr2.pos; replace hr2 := Lib.hid hr2; replace hx2 := Lib.hid (hx.out.trans hx2))
            exact ⟨⟨q + 1, by omega, hE.out, hr2.out, hx2.out⟩, by omega⟩
        · have hw : isWs C = true := by
            have e : C = 10 := by have := eq_of_beq h3; omega
            subst e; rfl
          have hE : E = scan isWs L (q + 1) := by rw [hs.out, hsc.out, hw]; rfl
          have hql := hin hw
          replace hE := Lib.hid hE
          go_wp2_with (go_at_call 20; refine hrd.out.mono ?_; rintro e w2 ⟨rfl, hr2, hx2⟩; have hpos2 := hr2.pos; replace hr2 := Lib.hid hr2; replace hx2 := Lib.hid (hx.out.trans hx2))
          exact ⟨⟨q + 1, by omega, hE.out, hr2.out, hx2.out⟩, by omega⟩
      · have hw : isWs C = true := by
          have e : C = 9 := by have := eq_of_beq h2; omega
          subst e; rfl
        have hE : E = scan isWs L (q + 1) := by rw [hs.out, hsc.out, hw]; rfl
        have hql := hin hw
        replace hE := Lib.hid hE
        go_wp2_with (go_at_call 20; refine hrd.out.mono ?_; rintro e w2 ⟨rfl, hr2, hx2⟩; have hpos2 := hr2.pos; replace hr2 := Lib.hid hr2; replace hx2 := Lib.hid (hx.out.trans hx2))
        exact ⟨⟨q + 1, by omega, hE.out, hr2.out, hx2.out⟩, by omega⟩
    · have hw : isWs C = true := by
        have e : C = 32 := by have := eq_of_beq h1; omega
        subst e; rfl
      have hE : E = scan isWs L (q + 1) := by rw [hs.out, hsc.out, hw]; rfl
      have hql := hin hw
      replace hE := Lib.hid hE
      go_wp2_with (go_at_call 20; refine hrd.out.mono ?_; rintro e w2 ⟨rfl, hr2, hx2⟩; have hpos2 := hr2.pos; replace hr2 := Lib.hid hr2; replace hx2 := Lib.hid (hx.out.trans hx2))
      exact ⟨⟨q + 1, by omega, hE.out, hr2.out, hx2.out⟩, by omega⟩
end Go.Proofs.YtlcdhahnngfjhaaDoor

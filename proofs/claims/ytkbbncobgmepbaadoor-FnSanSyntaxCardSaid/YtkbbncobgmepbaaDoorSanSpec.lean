/- Standard algebraic notation: the reference's small functions. -/
import Derived.Test.YtkbbncobgmepbaaDoorSanImpl
namespace Go.Proofs.YtkbbncobgmepbaaDoor
open Go.ChangeShapes Go.WideShapes Go.ChangeAt Go.RowKit Go.PlainAid
set_option maxHeartbeats 1000000
set_option linter.unusedVariables false
set_option linter.unusedSimpArgs false
attribute [local go_sem] tx_list tx_size

theorem sanTail_any (L : List UInt8) (hL : L.length ≤ 1000) (w : World) :
    Calls Tryd.prog 20 #[.string (tx L)] w fun e w' => e = .returned (.bool (tailL L)) ∧ w' = w := by
  have hget := get_bt (tx L)
  have h0 : tailB L 0 = tailL L := rfl
  replace h0 := Lib.hid h0
  go_enter Tryd.func20, Tryd.ntmps20
  go_wp2
  go_loopw [3] (fun a wr => ∃ k : Nat, k ≤ 2000 ∧ a = .int .i64 k ∧ tailB L k = tailL L ∧ w = wr) (fun a _ => L.length - (intOf a).toNat)
  case atStart => exact ⟨0, by omega, rfl, h0.out, rfl⟩
  case round =>
    obtain ⟨k, hk, rfl, heq, rfl⟩ := hrel
    by_cases hlt : k < L.length
    · have hgk : ∀ h : k < (tx L).size, ((((tx L)[k]'h).toNat : Nat) : Int) = (((L.getD k 0).toNat : Nat) : Int) := fun h => by rw [get_bt (tx L) k h, bt_tx]
      have hst := tailB_step L k hlt
      have hs : has signS L k = signS.contains (L.getD k 0) := by unfold has; rw [decide_eq_true hlt, Bool.true_and]
      have hin := fun w => sanIn_any signS (by decide) (L.getD k 0) w
      rw [← hs] at hin
      clear hget hs
      cases hh : has signS L k
      · rw [hh] at hst hin
        replace hin := Lib.hid hin
        clear hh
        by_cases hl4 : k + 4 ≤ L.length
        · have hd : decide ((k : Int) + 4 ≤ (L.length : Int)) = true := decide_eq_true (by omega)
          have hsl := slice_mid L k (k + 4) (by omega) hl4
          rw [show (((k + 4 : Nat)) : Int) = (k : Int) + 4 by omega] at hsl
          rw [decide_eq_true hl4, Bool.true_and] at hst
          cases hm : mid L k (k + 4) == [101, 46, 112, 46]
          · rw [hm] at hst
            have hfin := Lib.hid (show tailL L = false by rw [← heq, hst]; rfl)
            clear hst heq
            generalize (((L.getD k 0).toNat : Nat) : Int) = c at *
            generalize mid L k (k + 4) = m at *
            go_wp2_with (go_at_call 21; refine (hin.out _).mono ?_; rintro e w' ⟨rfl, rfl⟩)
            go_ret
            exact ⟨by rw [hfin.out]; rfl, rfl⟩
          · rw [hm] at hst
            have hfin := Lib.hid (show tailB L (k + 4) = tailL L by rw [← heq, hst]; rfl)
            clear hst heq
            generalize (((L.getD k 0).toNat : Nat) : Int) = c at *
            generalize mid L k (k + 4) = m at *
            go_wp2_with (go_at_call 21; refine (hin.out _).mono ?_; rintro e w' ⟨rfl, rfl⟩)
            exact ⟨⟨k + 4, by omega, by go_num, hfin.out, trivial⟩, by simp [intOf]; omega⟩
        · have hd : decide ((k : Int) + 4 ≤ (L.length : Int)) = false := decide_eq_false (by omega)
          rw [decide_eq_false hl4, Bool.false_and] at hst
          have hfin := Lib.hid (show tailL L = false by rw [← heq, hst]; rfl)
          clear hst heq
          generalize (((L.getD k 0).toNat : Nat) : Int) = c at *
          go_wp2_with (go_at_call 21; refine (hin.out _).mono ?_; rintro e w' ⟨rfl, rfl⟩)
          go_ret
          exact ⟨by rw [hfin.out]; rfl, rfl⟩
      · rw [hh] at hst hin
        have hfin := Lib.hid (show tailB L (k + 1) = tailL L by rw [← heq, hst]; rfl)
        replace hin := Lib.hid hin
        clear hst heq hh
        generalize (((L.getD k 0).toNat : Nat) : Int) = c at *
        go_wp2_with (go_at_call 21; refine (hin.out _).mono ?_; rintro e w' ⟨rfl, rfl⟩)
        exact ⟨⟨k + 1, by omega, by go_num, hfin.out, trivial⟩, by simp [intOf]; omega⟩
    · have hfin := Lib.hid (show tailL L = true by rw [← heq]; exact tailB_end L k (by omega))
      clear hget heq
      go_wp2
      go_ret
      exact ⟨by rw [hfin.out]; rfl, rfl⟩
/-- The byte at a place, if it is one of some. -/
def oneT (S L : List UInt8) (i : Nat) : List UInt8 := mid L i (i + oneB S L i)
theorem oneT_no {S L : List UInt8} {i : Nat} (h : has S L i = false) : oneT S L i = [] := by
  unfold oneT mid
  rw [oneB_no h, Nat.add_zero, List.drop_eq_nil_of_le (by rw [List.length_take]; omega)]
theorem sanOne_any (S L : List UInt8) (hS : S.length ≤ 1000) (hL : L.length ≤ 1000) (x : Int) (i : Nat) (hx : x = i) (hi : i ≤ 2000) (w : World) :
    Calls Tryd.prog 41 #[.string (tx L), .int .i64 x, .string (tx S)] w fun e w' => e = .returned (.string (tx (oneT S L i))) ∧ w' = w := by
  subst hx
  have hget := get_bt (tx L)
  by_cases hlt : i < L.length
  · have hd : decide ((i : Int) < (L.length : Int)) = true := decide_eq_true (by omega)
    have hgk : ∀ h : i < (tx L).size, ((((tx L)[i]'h).toNat : Nat) : Int) = (((L.getD i 0).toNat : Nat) : Int) := fun h => by rw [get_bt (tx L) i h, bt_tx]
    have hs : has S L i = S.contains (L.getD i 0) := by unfold has; rw [decide_eq_true hlt, Bool.true_and]
    have hin := fun w => sanIn_any S hS (L.getD i 0) w
    rw [← hs] at hin
    clear hget hs
    cases hh : has S L i
    · rw [hh] at hin
      have hfin := Lib.hid (oneT_no hh)
      replace hin := Lib.hid hin
      generalize (((L.getD i 0).toNat : Nat) : Int) = c at *
      go_enter Tryd.func41, Tryd.ntmps41
      go_wp2_with (go_at_call 21; refine (hin.out _).mono ?_; rintro e w' ⟨rfl, rfl⟩)
      go_ret
      exact ⟨by rw [hfin.out]; rfl, rfl⟩
    · rw [hh] at hin
      have hsl := slice_mid L i (i + 1) (by omega) (by omega)
      rw [show (((i + 1 : Nat)) : Int) = (i : Int) + 1 by omega] at hsl
      have hfin := Lib.hid (show oneT S L i = mid L i (i + 1) by unfold oneT; rw [oneB_yes hh])
      replace hin := Lib.hid hin
      generalize (((L.getD i 0).toNat : Nat) : Int) = c at *
      go_enter Tryd.func41, Tryd.ntmps41
      go_wp2_with (go_at_call 21; refine (hin.out _).mono ?_; rintro e w' ⟨rfl, rfl⟩)
      go_ret
      exact ⟨by rw [hfin.out]; rfl, rfl⟩
  · have hd : decide ((i : Int) < (L.length : Int)) = false := decide_eq_false (by omega)
    have hfin := Lib.hid (oneT_no (has_far (S := S) (L := L) (i := i) (by omega)))
    clear hget
    go_enter Tryd.func41, Tryd.ntmps41
    go_wp2
    go_ret
    exact ⟨by rw [hfin.out]; rfl, rfl⟩
end Go.Proofs.YtkbbncobgmepbaaDoor

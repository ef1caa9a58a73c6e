/- Standard algebraic notation: one byte, and the signs behind. -/
import Derived.Test.YtkbbncobgmepbaaDoorSanPlain
namespace Go.Proofs.YtkbbncobgmepbaaDoor
open Go.ChangeShapes Go.WideShapes Go.ChangeAt Go.RowKit Go.PlainAid
set_option maxHeartbeats 1000000
set_option linter.unusedVariables false
set_option linter.unusedSimpArgs false
attribute [local go_sem] tx_list tx_size

theorem contains_succ {S : List UInt8} {c : UInt8} {k : Nat} (hn : ∀ j, j < k → S.getD j 0 ≠ c) (h : S.getD k 0 ≠ c) : ∀ j, j < k + 1 → S.getD j 0 ≠ c := fun j hj => by
  rcases Nat.lt_succ_iff_lt_or_eq.1 hj with h1 | rfl
  · exact hn j h1
  · exact h
theorem contains_no {S : List UInt8} {c : UInt8} (hn : ∀ j, j < S.length → S.getD j 0 ≠ c) : S.contains c = false := by
  cases h : S.contains c
  · rfl
  · have hm : c ∈ S := by simpa using h
    obtain ⟨j, hj, e⟩ := List.getElem_of_mem hm
    exact absurd (by rw [List.getD_eq_getElem?_getD, List.getElem?_eq_getElem hj]; exact e) (hn j hj)
theorem contains_yes {S : List UInt8} {c : UInt8} {k : Nat} (hk : k < S.length) (h : S.getD k 0 = c) : S.contains c = true := by
  have : c ∈ S := by
    rw [← h, List.getD_eq_getElem?_getD, List.getElem?_eq_getElem hk]
    exact List.getElem_mem hk
  simpa using this
theorem u8_beq (a b : UInt8) : (((a.toNat : Nat) : Int) == ((b.toNat : Nat) : Int)) = decide (a = b) := by
  by_cases h : a = b
  · subst h; simp
  · rw [decide_eq_false h, beq_eq_false_iff_ne]
    intro e
    exact h (UInt8.toNat_inj.1 (by omega))
theorem sanIn_any (S : List UInt8) (hS : S.length ≤ 1000) (c : UInt8) (w : World) :
    Calls Tryd.prog 21 #[.string (tx S), .int .u8 ((c.toNat : Nat) : Int)] w fun e w' => e = .returned (.bool (S.contains c)) ∧ w' = w := by
  have hget := get_bt (tx S)
  go_enter Tryd.func21, Tryd.ntmps21
  go_wp2
  go_loopw [5] (fun i wr => ∃ k : Nat, k ≤ S.length ∧ i = .int .i64 k ∧ (∀ j, j < k → S.getD j 0 ≠ c) ∧ w = wr) (fun i _ => S.length - (intOf i).toNat)
  case atStart => exact ⟨0, by omega, rfl, fun j hj => by omega, rfl⟩
  case round =>
    obtain ⟨k, hk, rfl, hn, rfl⟩ := hrel
    by_cases hlt : k < S.length
    · have hgk := hget k hlt
      rw [bt_tx] at hgk
      have hq := u8_beq (S.getD k 0) c
      clear hget
      by_cases e : S.getD k 0 = c
      · rw [decide_eq_true e] at hq
        have hfin := Lib.hid (contains_yes hlt e)
        clear hn e
        generalize (((S.getD k 0).toNat : Nat) : Int) = x at *
        generalize ((c.toNat : Nat) : Int) = y at *
        go_wp2
        go_ret
        exact ⟨by rw [hfin.out]; rfl, rfl⟩
      · rw [decide_eq_false e] at hq
        have hn' := Lib.hid (contains_succ hn e)
        clear hn e
        generalize (((S.getD k 0).toNat : Nat) : Int) = x at *
        generalize ((c.toNat : Nat) : Int) = y at *
        go_wp2
        exact ⟨⟨k + 1, by omega, by go_num, hn'.out, trivial⟩, by simp [intOf]; omega⟩
    · obtain rfl : k = S.length := by omega
      have hfin := Lib.hid (contains_no hn)
      clear hget hn
      go_wp2
      go_ret
      exact ⟨by rw [hfin.out]; rfl, rfl⟩
theorem signS_has {L : List UInt8} {k : Nat} (hk : k < L.length) : has signS L k = ((((L.getD k 0).toNat : Int) == 43) || (((L.getD k 0).toNat : Int) == 35) || (((L.getD k 0).toNat : Int) == 33) || (((L.getD k 0).toNat : Int) == 63)) := by
  unfold has
  rw [decide_eq_true hk, Bool.true_and]
  have e1 := u8_beq (L.getD k 0) 43
  have e2 := u8_beq (L.getD k 0) 35
  have e3 := u8_beq (L.getD k 0) 33
  have e4 := u8_beq (L.getD k 0) 63
  rw [show (((43 : UInt8).toNat : Nat) : Int) = 43 from rfl] at e1
  rw [show (((35 : UInt8).toNat : Nat) : Int) = 35 from rfl] at e2
  rw [show (((33 : UInt8).toNat : Nat) : Int) = 33 from rfl] at e3
  rw [show (((63 : UInt8).toNat : Nat) : Int) = 63 from rfl] at e4
  rw [e1, e2, e3, e4]
  simp [signS, Bool.or_assoc, beq_iff_eq, List.contains_cons]
theorem tail_any (L : List UInt8) (hL : L.length ≤ 1000) (i : Nat) (hi : i ≤ 2000) (w : World) :
    Calls Tryd.prog 65 #[.string (tx L), .int .i64 (i : Int)] w fun e w' => e = .returned (.bool (tailB L i)) ∧ w' = w := by
  have hget := get_bt (tx L)
  go_enter Tryd.func65, Tryd.ntmps65
  go_wp2
  go_loopw [1, 9, 34] (fun a _ _ wr => ∃ k : Nat, k ≤ 2000 ∧ a = .int .i64 k ∧ tailB L k = tailB L i ∧ w = wr) (fun a _ _ _ => L.length - (intOf a).toNat)
  case atStart => exact ⟨i, hi, rfl, rfl, rfl⟩
  case round =>
    obtain ⟨k, hk, rfl, heq, rfl⟩ := hrel
    by_cases hlt : k < L.length
    · have hgk : ∀ h : k < (tx L).size, ((((tx L)[k]'h).toNat : Nat) : Int) = (((L.getD k 0).toNat : Nat) : Int) := fun h => by rw [get_bt (tx L) k h, bt_tx]
      have hs := signS_has hlt
      have hst := tailB_step L k hlt
      clear hget
      cases hh : has signS L k
      · rw [hh] at hst hs
        have hs' := hs.symm
        simp only [Bool.or_eq_false_iff] at hs'
        obtain ⟨⟨⟨h1, h2⟩, h3⟩, h4⟩ := hs'
        clear hs hh
        by_cases hl4 : k + 4 ≤ L.length
        · have hd : decide ((k : Int) + 4 ≤ (L.length : Int)) = true := decide_eq_true (by omega)
          have hsl := slice_mid L k (k + 4) (by omega) hl4
          rw [show (((k + 4 : Nat)) : Int) = (k : Int) + 4 by omega] at hsl
          rw [decide_eq_true hl4, Bool.true_and] at hst
          cases hm : mid L k (k + 4) == [101, 46, 112, 46]
          · rw [hm] at hst
            have hfin := Lib.hid (show tailB L i = false by rw [← heq, hst]; rfl)
            clear hst heq
            generalize (((L.getD k 0).toNat : Nat) : Int) = c at *
            generalize mid L k (k + 4) = m at *
            go_wp2
            go_ret
            exact ⟨by rw [hfin.out]; rfl, rfl⟩
          · rw [hm] at hst
            have hfin := Lib.hid (show tailB L (k + 4) = tailB L i by rw [← heq, hst]; rfl)
            clear hst heq
            generalize (((L.getD k 0).toNat : Nat) : Int) = c at *
            generalize mid L k (k + 4) = m at *
            go_wp2
            exact ⟨⟨k + 4, by omega, by go_num, hfin.out, trivial⟩, by simp [intOf]; omega⟩
        · have hd : decide ((k : Int) + 4 ≤ (L.length : Int)) = false := decide_eq_false (by omega)
          rw [decide_eq_false hl4, Bool.false_and] at hst
          have hfin := Lib.hid (show tailB L i = false by rw [← heq, hst]; rfl)
          clear hst heq
          generalize (((L.getD k 0).toNat : Nat) : Int) = c at *
          go_wp2
          go_ret
          exact ⟨by rw [hfin.out]; rfl, rfl⟩
      · rw [hh] at hst hs
        have hfin := Lib.hid (show tailB L (k + 1) = tailB L i by rw [← heq, hst]; rfl)
        clear hst heq hh
        generalize (((L.getD k 0).toNat : Nat) : Int) = c at *
        cases h1 : (c == 43) <;> cases h2 : (c == 35) <;> cases h3 : (c == 33) <;> cases h4 : (c == 63) <;> simp only [h1, h2, h3, h4, Bool.or_false, Bool.or_true, Bool.true_eq_false, Bool.false_eq_true] at hs
        all_goals
          clear hs
          go_wp2
          exact ⟨⟨k + 1, by omega, by go_num, hfin.out, trivial⟩, by simp [intOf]; omega⟩
    · have hfin := Lib.hid (show tailB L i = true by rw [← heq]; exact tailB_end L k (by omega))
      clear hget heq
      go_wp2
      go_ret
      exact ⟨by rw [hfin.out]; rfl, rfl⟩
end Go.Proofs.YtkbbncobgmepbaaDoor

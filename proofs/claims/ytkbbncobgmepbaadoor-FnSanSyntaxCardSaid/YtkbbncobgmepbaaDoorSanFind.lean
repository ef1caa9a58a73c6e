/- Standard algebraic notation: the program's search for a way to read a text. -/
import Derived.Test.YtkbbncobgmepbaaDoorSanTail
import Derived.Deep.RegionHeld3
namespace Go.Proofs.YtkbbncobgmepbaaDoor
open Go.ChangeShapes Go.WideShapes Go.ChangeAt Go.RowKit Go.PlainAid
set_option maxHeartbeats 1000000
set_option linter.unusedVariables false
set_option linter.unusedSimpArgs false
attribute [local go_sem] tx_list tx_size

theorem has_yes {S L : List UInt8} {i k : Nat} (hi : i < L.length) (hk : k < S.length) (h : S.getD k 0 = L.getD i 0) : has S L i = true := by
  unfold has; rw [decide_eq_true hi, contains_yes hk h]; rfl
theorem has_not {S L : List UInt8} {i : Nat} (hn : ∀ j, j < S.length → S.getD j 0 ≠ L.getD i 0) : has S L i = false := by
  unfold has; rw [contains_no hn, Bool.and_false]
theorem has_far {S L : List UInt8} {i : Nat} (h : L.length ≤ i) : has S L i = false := by
  unfold has; rw [decide_eq_false (by omega), Bool.false_and]
theorem one_any (S L : List UInt8) (hS : S.length ≤ 1000) (hL : L.length ≤ 1000) (i : Nat) (hi : i ≤ 2000) (H : Nat) (w : World) (hc : w.cell? ⟨H, 0, none⟩ = some (.string (tx L))) :
    Calls Tryd.prog 64 #[.int .i64 (i : Int), .string (tx S), .pointer (some ⟨H, 0, none⟩)] w fun e w' => e = .returned (.int .i64 ((oneB S L i : Nat) : Int)) ∧ Below w.heap.size w w' := by
  have hgetS := get_bt (tx S)
  have hgetL := get_bt (tx L)
  by_cases hlt : i < L.length
  · have hd : decide ((i : Int) < (L.length : Int)) = true := decide_eq_true (by omega)
    have hgL := hgetL i hlt
    rw [bt_tx] at hgL
    clear hgetL
    go_enter Tryd.func64, Tryd.ntmps64
    go_wp2
    go_loopw [6] (fun j wr => ∃ k : Nat, k ≤ S.length ∧ j = .int .i64 k ∧ (∀ j, j < k → S.getD j 0 ≠ L.getD i 0) ∧ wr.cell? ⟨H, 0, none⟩ = some (.string (tx L)) ∧ Below w.heap.size w wr) (fun j _ => S.length - (intOf j).toNat)
    case atStart => exact ⟨0, by omega, rfl, fun j hj => by omega, hc, Below.refl _ _⟩
    case round =>
      clear hc
      obtain ⟨k, hk, rfl, hn, hc, hb⟩ := hrel
      by_cases hk2 : k < S.length
      · have hgS := hgetS k hk2
        rw [bt_tx] at hgS
        have hq := u8_beq (L.getD i 0) (S.getD k 0)
        have hk0 : (0 : Int) ≤ (k : Int) := by omega
        have hk3 : (k : Int) < (S.length : Int) := by omega
        have hi0 : (0 : Int) ≤ (i : Int) := by omega
        have hi3 : (i : Int) < (L.length : Int) := by omega
        replace hb := Lib.hid hb
        clear hgetS
        by_cases e : S.getD k 0 = L.getD i 0
        · rw [decide_eq_true e.symm] at hq
          have hfin := Lib.hid (oneB_yes (has_yes hlt hk2 e))
          clear hn e
          generalize (((S.getD k 0).toNat : Nat) : Int) = x at *
          generalize (((L.getD i 0).toNat : Nat) : Int) = y at *
          go_wp2
          go_quiet (fail)
          go_wp2
          go_ret
          exact ⟨by rw [hfin.out]; rfl, hb.out.trans ⟨rfl, rfl, rfl, Nat.le_refl _, fun _ _ => rfl⟩⟩
        · rw [decide_eq_false (fun h => e h.symm)] at hq
          have hn' := Lib.hid (contains_succ hn e)
          clear hn e
          generalize (((S.getD k 0).toNat : Nat) : Int) = x at *
          generalize (((L.getD i 0).toNat : Nat) : Int) = y at *
          go_wp2
          go_quiet (fail)
          go_wp2
          exact ⟨⟨k + 1, by omega, by go_num, hn'.out, hc, hb.out.trans ⟨rfl, rfl, rfl, Nat.le_refl _, fun _ _ => rfl⟩⟩, by simp [intOf]; omega⟩
      · obtain rfl : k = S.length := by omega
        have hfin := Lib.hid (oneB_no (has_not hn))
        clear hgetS hn
        replace hb := Lib.hid hb
        go_wp2
        go_ret
        exact ⟨by rw [hfin.out]; rfl, hb.out⟩
  · have hd : decide ((i : Int) < (L.length : Int)) = false := decide_eq_false (by omega)
    have hfin := Lib.hid (oneB_no (has_far (S := S) (L := L) (i := i) (by omega)))
    clear hgetS hgetL
    go_enter Tryd.func64, Tryd.ntmps64
    go_wp2
    go_ret
    exact ⟨by rw [hfin.out]; rfl, Below.refl _ _⟩
end Go.Proofs.YtkbbncobgmepbaaDoor

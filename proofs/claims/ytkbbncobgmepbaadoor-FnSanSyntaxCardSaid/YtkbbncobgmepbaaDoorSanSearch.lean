/- Standard algebraic notation: the reference's search, and that it finds the way that there is. -/
import Derived.Test.YtkbbncobgmepbaaDoorSanRest
namespace Go.Proofs.YtkbbncobgmepbaaDoor
open Go.ChangeShapes Go.WideShapes Go.ChangeAt Go.RowKit Go.PlainAid
set_option maxHeartbeats 4000000
set_option linter.unusedVariables false
set_option linter.unusedSimpArgs false
attribute [local go_sem] tx_list tx_size

theorem off3 (n : Nat) : offN n 3 = bitN n 0 + bitN n 1 + bitN n 2 := by simp [offN]
def endN (L : List UInt8) (a n : Nat) : Nat := a + offN n 3 + 2 + pN L (a + offN n 3 + 2)
theorem hit_of_rest {L : List UInt8} {n : Nat} (h : restYes L (oneB pieceS L 0) n) (ht : tailB L (endN L (oneB pieceS L 0) n) = true) : Hit L (oneB pieceS L 0) (bitN n 0) (bitN n 1) (bitN n 2) (pN L (oneB pieceS L 0 + offN n 3 + 2)) := by
  obtain ⟨h1, h2, h3⟩ := h
  unfold endN at ht
  generalize hae : oneB pieceS L 0 = a at *
  have e : a + bitN n 0 + bitN n 1 + bitN n 2 = a + offN n 3 := by rw [off3]; omega
  refine ⟨?_, ?_, ?_, ?_, by rw [e]; exact h2, by rw [e]; exact h3, ?_, by rw [e]; exact ht⟩
  · exact Nat.le_of_eq hae.symm
  · rcases bit_cases n 0 with hb | hb
    · omega
    · have : has fileS L a = true := h1 0 (by omega) hb
      rw [hb, oneB_yes this]; exact Nat.le_refl _
  · rcases bit_cases n 1 with hb | hb
    · omega
    · have : has digS L (a + offN n 1) = true := h1 1 (by omega) hb
      rw [show offN n 1 = bitN n 0 by simp [offN]] at this
      rw [hb, oneB_yes this]; exact Nat.le_refl _
  · rcases bit_cases n 2 with hb | hb
    · omega
    · have : has xS L (a + offN n 2) = true := h1 2 (by omega) hb
      rw [show offN n 2 = bitN n 0 + bitN n 1 by simp [offN], ← Nat.add_assoc] at this
      rw [hb, oneB_yes this]; exact Nat.le_refl _
  · rw [e]
    unfold pN
    by_cases hc : has eqS L (a + offN n 3 + 2) && has promS L (a + offN n 3 + 2 + 1)
    · rw [if_pos hc]
      rw [Bool.and_eq_true] at hc
      exact .inl ⟨rfl, hc.1, hc.2⟩
    · rw [if_neg hc]; exact .inr rfl
theorem rest_of_hit {L : List UInt8} {a b c d p : Nat} (h : Hit L a b c d p) : ∃ n, n < 8 ∧ a = oneB pieceS L 0 ∧ bitN n 0 = b ∧ bitN n 1 = c ∧ bitN n 2 = d ∧ restYes L a n ∧ pN L (a + offN n 3 + 2) = p ∧ tailB L (endN L a n) = true := by
  have ha := hit_a h
  have hp := hit_p h
  have hp' := h.hp
  obtain ⟨_, hb, hc, hd, hf, hg, _, ht⟩ := h
  have lb := oneB_le fileS L a
  have lc := oneB_le digS L (a + b)
  have ld := oneB_le xS L (a + b + c)
  have b0 : bitN (b + 2 * c + 4 * d) 0 = b := by unfold bitN; omega
  have b1 : bitN (b + 2 * c + 4 * d) 1 = c := by unfold bitN; omega
  have b2 : bitN (b + 2 * c + 4 * d) 2 = d := by unfold bitN; omega
  have e : a + offN (b + 2 * c + 4 * d) 3 = a + b + c + d := by rw [off3, b0, b1, b2]; omega
  have hpn : pN L (a + b + c + d + 2) = p := by
    unfold pN
    rcases hp' with ⟨rfl, h1, h2⟩ | rfl
    · rw [h1, h2]; rfl
    · cases he : has eqS L (a + b + c + d + 2)
      · rfl
      · rw [he] at hp; cases hp
  refine ⟨b + 2 * c + 4 * d, by omega, ha, b0, b1, b2, ⟨fun j hj hbj => ?_, by rw [e]; exact hf, by rw [e]; exact hg⟩, by rw [e]; exact hpn, by unfold endN; rw [e, hpn]; exact ht⟩
  have : j = 0 ∨ j = 1 ∨ j = 2 := by omega
  rcases this with rfl | rfl | rfl
  · rw [b0] at hbj
    exact oneB_pos (S := fileS) (by show 1 ≤ oneB fileS L a; omega)
  · rw [b1] at hbj
    have : a + offN (b + 2 * c + 4 * d) 1 = a + b := by simp [offN, b0]
    rw [this]
    exact oneB_pos (S := digS) (by omega)
  · rw [b2] at hbj
    have : a + offN (b + 2 * c + 4 * d) 2 = a + b + c := by simp [offN, b0, b1]; omega
    rw [this]
    exact oneB_pos (S := xS) (by omega)
/-- The parts that the reference finds. -/
def outT (L : List UInt8) (a n : Nat) (j : Nat) : List UInt8 := if j = 0 then mid L 0 a else if j = 7 then [] else restAll L a n (j - 1)
theorem outT_parts (L : List UInt8) (a n : Nat) (hf : has fileS L (a + offN n 3) = true) (hg : has digS L (a + offN n 3 + 1) = true) :
    [outT L a n 0, outT L a n 1, outT L a n 2, outT L a n 3, outT L a n 4, outT L a n 5, outT L a n 6, outT L a n 7] = partsOf L a (bitN n 0) (bitN n 1) (bitN n 2) (pN L (a + offN n 3 + 2)) := by
  have e1 : offN n 1 = bitN n 0 := by simp [offN]
  have e2 : offN n 2 = bitN n 0 + bitN n 1 := by simp [offN]
  have e3 := off3 n
  have o3 : outT L a n 4 = oneT fileS L (a + offN n 3) := rfl
  have o4 : outT L a n 5 = oneT digS L (a + offN n 3 + 1) := rfl
  have o0 : outT L a n 1 = mid L (a + offN n 0) (a + offN n 1) := rfl
  have o1 : outT L a n 2 = mid L (a + offN n 1) (a + offN n 2) := rfl
  have o2 : outT L a n 3 = mid L (a + offN n 2) (a + offN n 3) := rfl
  have o5 : outT L a n 6 = mid L (a + offN n 3 + 2) (a + offN n 3 + 2 + pN L (a + offN n 3 + 2)) := rfl
  unfold oneT at o3 o4
  rw [oneB_yes hf] at o3
  rw [oneB_yes hg] at o4
  rw [o0, o1, o2, o3, o4, o5, e3, e2, e1]
  simp only [partsOf, offN, Nat.add_zero, Nat.add_assoc]
  rfl
theorem noHit_O {L : List UInt8} (h : L.getD 0 0 = 79) : noHit L := fun a b c d p hh => by
  have no : ∀ S : List UInt8, S.contains 79 = false → has S L 0 = false := fun S hS => by unfold has; rw [h, hS, Bool.and_false]
  have ha := hh.ha
  rw [oneB_no (no pieceS (by decide))] at ha
  obtain rfl : a = 0 := by omega
  have hb := hh.hb
  rw [oneB_no (no fileS (by decide))] at hb
  obtain rfl : b = 0 := by omega
  have hc := hh.hc
  rw [oneB_no (no digS (by decide))] at hc
  obtain rfl : c = 0 := by omega
  have hd := hh.hd
  rw [oneB_no (no xS (by decide))] at hd
  obtain rfl : d = 0 := by omega
  have hf := hh.hf
  rw [no fileS (by decide)] at hf
  cases hf
/-- What the reference's search answers. -/
def OutS (L : List UInt8) (l : List (List UInt8)) (b : Bool) : Prop := (SanR L (some l) ∧ l.length = 8 ∧ b = true) ∨ (SanR L none ∧ b = false)
end Go.Proofs.YtkbbncobgmepbaaDoor

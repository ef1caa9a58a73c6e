/- The tokens of the law's texts, in plain Lean. -/
import Derived.Test.YtlcdhahnngfjhaaDoorLxN
namespace Go.Proofs.YtlcdhahnngfjhaaDoor
open Go.Proofs Go.Shelf Go.Lib Go.ChangeShapes Go.WideShapes Go.ChangeAt Go.RowKit Go.PlainAid
set_option maxHeartbeats 1000000
set_option linter.unusedVariables false
set_option linter.unusedSimpArgs false

theorem scan_at {L : List UInt8} {p : Nat} (h : isWs (chAt L p) = false) : scan isWs L p = p := by
  rw [scan_step (t := isWs) rfl, h]; rfl
theorem ws_no {c : Nat} (h : 33 ≤ c) : isWs c = false := by
  unfold isWs
  rw [beq_eq_false_iff_ne.2 (by omega), beq_eq_false_iff_ne.2 (by omega), beq_eq_false_iff_ne.2 (by omega), beq_eq_false_iff_ne.2 (by omega)]
  rfl
abbrev F0 : Fl := ⟨false, false, false, false⟩
theorem cl_up {c : Nat} (h : isUp c = true) : 65 ≤ c ∧ c ≤ 90 := by unfold isUp at h; simpa using h
theorem cl_d {c : Nat} (h : isD c = true) : 48 ≤ c ∧ c ≤ 57 := by unfold isD at h; simpa using h
theorem cl_fl {c : Nat} (h : isFl c = true) : 97 ≤ c ∧ c ≤ 104 := by unfold isFl at h; simpa using h
theorem no_fl {c : Nat} (h : c < 97 ∨ 104 < c) : isFl c = false := by
  unfold isFl
  rcases h with h | h
  · rw [decide_eq_false (by omega)]; rfl
  · rw [decide_eq_false (show ¬ c ≤ 104 by omega), Bool.and_false]
theorem no_d {c : Nat} (h : c < 48 ∨ 57 < c) : isD c = false := by
  unfold isD
  rcases h with h | h
  · rw [decide_eq_false (by omega)]; rfl
  · rw [decide_eq_false (show ¬ c ≤ 57 by omega), Bool.and_false]
theorem ascii_of {L : List UInt8} (h : ∀ b ∈ L, b.toNat < 128) : asciiL L := by
  intro i
  unfold chAt
  rw [List.getD_eq_getElem?_getD]
  cases hi : L[i]? with
  | none => decide
  | some b => exact h b (List.mem_of_getElem? hi)
theorem run_a (b0 b1 b2 b3 : UInt8) (h0 : isUp b0.toNat = true) (h0' : b0.toNat ≠ 79) (h1 : isD b1.toNat = true) (h2 : isFl b2.toNat = true) (h3 : isD b3.toNat = true) :
    Run [b0, b1, b2, b3] 0 F0 [⟨!isPc b0.toNat, [b0], 9⟩, ⟨!isRk b1.toNat, [b1], 17⟩, ⟨false, [b2, b3], 10⟩] := by
  have r0 := cl_up h0; have r1 := cl_d h1; have r2 := cl_fl h2; have r3 := cl_d h3
  have hA : asciiL [b0, b1, b2, b3] := ascii_of (by intro b hb; simp at hb; rcases hb with rfl | rfl | rfl | rfl <;> omega)
  have hL : ([b0, b1, b2, b3] : List UInt8).length ≤ 1000000 := by simp
  refine .step (p' := 1) (f' := F0) (next_piece0 _ hL hA 0 false (by simp) (scan_at (ws_no (show 33 ≤ b0.toNat by omega))) ⟨r0.1, r0.2, h0'⟩) (by simp) ?_
  refine .step (p' := 2) (f' := F0) (next_rank _ hL hA 1 0 false (by simp) (scan_at (ws_no (show 33 ≤ b1.toNat by omega))) h1 h0) (by simp) ?_
  refine .step (p' := 4) (f' := F0) (next_square _ hL hA 2 2 false (by simp) (scan_at (ws_no (show 33 ≤ b2.toNat by omega))) h2 h3 (by rfl) (by rfl)) (by simp) ?_
  exact .stop (next_end _ hL 4 4 false (by simp) (scan_at (by rfl)) rfl) rfl
theorem run_b (b0 b1 b3 : UInt8) (h0 : isFl b0.toNat = true) (h1 : isD b1.toNat = true) (h3 : isUp b3.toNat = true) (h3' : b3.toNat ≠ 79) :
    Run [b0, b1, 61, b3] 0 F0 [⟨false, [b0, b1], 10⟩, ⟨false, [61], 20⟩, ⟨!isPc b3.toNat, [b3], 21⟩] := by
  have r0 := cl_fl h0; have r1 := cl_d h1; have r3 := cl_up h3
  have hA : asciiL [b0, b1, 61, b3] := ascii_of (by intro b hb; simp at hb; rcases hb with rfl | rfl | rfl | rfl <;> first | omega | decide)
  have hL : ([b0, b1, 61, b3] : List UInt8).length ≤ 1000000 := by simp
  refine .step (p' := 2) (f' := F0) (next_square _ hL hA 0 0 false (by simp) (scan_at (ws_no (show 33 ≤ b0.toNat by omega))) h0 h1 (by rfl) (by rfl)) (by simp) ?_
  refine .step (p' := 3) (f' := F0) (next_becomes _ hL 2 2 false (by simp) (scan_at (by rfl)) rfl) (by simp) ?_
  refine .step (p' := 4) (f' := F0) (next_promo _ hL hA 3 2 false (by simp) (scan_at (ws_no (show 33 ≤ b3.toNat by omega))) ⟨r3.1, r3.2, h3'⟩ rfl) (by simp) ?_
  exact .stop (next_end _ hL 4 4 false (by simp) (scan_at (by rfl)) rfl) rfl
theorem run_c (b0 b1 b2 : UInt8) (h0 : isUp b0.toNat = true) (h0' : b0.toNat ≠ 79) (h1 : isFl b1.toNat = true) (h2 : isD b2.toNat = true) :
    Run [b0, b1, b2] 0 F0 [⟨!isPc b0.toNat, [b0], 9⟩, ⟨false, [b1, b2], 10⟩] := by
  have r0 := cl_up h0; have r1 := cl_fl h1; have r2 := cl_d h2
  have hA : asciiL [b0, b1, b2] := ascii_of (by intro b hb; simp at hb; rcases hb with rfl | rfl | rfl <;> omega)
  have hL : ([b0, b1, b2] : List UInt8).length ≤ 1000000 := by simp
  refine .step (p' := 1) (f' := F0) (next_piece0 _ hL hA 0 false (by simp) (scan_at (ws_no (show 33 ≤ b0.toNat by omega))) ⟨r0.1, r0.2, h0'⟩) (by simp) ?_
  refine .step (p' := 3) (f' := F0) (next_square _ hL hA 1 1 false (by simp) (scan_at (ws_no (show 33 ≤ b1.toNat by omega))) h1 h2 (by rfl) (by rfl)) (by simp) ?_
  exact .stop (next_end _ hL 3 3 false (by simp) (scan_at (by rfl)) rfl) rfl
/-- The document's example. -/
def awL : List UInt8 := [49, 46, 32, 101, 52, 32, 123, 83, 116, 114, 111, 110, 103, 32, 109, 111, 118, 101, 125]
def awK : List Tk := [⟨false, [49], 6⟩, ⟨false, [46], 7⟩, ⟨false, [101, 52], 10⟩, ⟨false, [123], 11⟩, ⟨false, [83, 116, 114, 111, 110, 103, 32, 109, 111, 118, 101], 13⟩, ⟨false, [125], 12⟩]
theorem run_aw : Run awL 0 F0 awK := by
  have hA : asciiL awL := ascii_of (by decide)
  have hL : awL.length ≤ 1000000 := by decide
  refine .step (p' := 1) (f' := F0) (k := ⟨false, [49], 6⟩) (next_number0 awL hL hA 0 1 false (by decide) (by decide) (by decide) (by decide) (by decide)) (by simp) ?_
  refine .step (p' := 2) (f' := F0) (next_dot awL hL 1 1 false (by decide) (by decide) (by decide) (by decide)) (by simp) ?_
  refine .step (p' := 5) (f' := F0) (k := ⟨false, [101, 52], 10⟩) (next_square awL hL hA 2 3 false (by decide) (by decide) (by decide) (by decide) (by decide) (by decide)) (by simp) ?_
  refine .step (p' := 7) (f' := ⟨false, true, false, false⟩) (next_brace awL hL 5 6 false (by decide) (by decide) (by decide)) (by simp) ?_
  refine .step (p' := 18) (f' := ⟨false, true, false, false⟩) (k := ⟨false, [83, 116, 114, 111, 110, 103, 32, 109, 111, 118, 101], 13⟩) (next_text awL hL hA 7 7 18 false (by decide) (by decide) (by decide) (by decide) (fun j h1 h2 => by
    have : j = 7 ∨ j = 8 ∨ j = 9 ∨ j = 10 ∨ j = 11 ∨ j = 12 ∨ j = 13 ∨ j = 14 ∨ j = 15 ∨ j = 16 ∨ j = 17 := by omega
    rcases this with rfl | rfl | rfl | rfl | rfl | rfl | rfl | rfl | rfl | rfl | rfl <;> decide) (by decide)) (by simp) ?_
  refine .step (p' := 19) (f' := F0) (next_unbrace awL hL 18 18 false (by decide) (by decide) (by decide)) (by simp) ?_
  exact .stop (next_end awL hL 19 19 false (by decide) (by decide) (by decide)) rfl
end Go.Proofs.YtlcdhahnngfjhaaDoor

/- Standard algebraic notation, the plain law: in how many ways a text can be read. -/
import Derived.Test.YtkbbncobgmepbaaDoorTx
namespace Go.Proofs.YtkbbncobgmepbaaDoor
set_option linter.unusedVariables false
set_option linter.unusedSimpArgs false

def fileS : List UInt8 := [97, 98, 99, 100, 101, 102, 103, 104]
def digS : List UInt8 := [48, 49, 50, 51, 52, 53, 54, 55, 56, 57]
def pieceS : List UInt8 := [82, 78, 66, 81, 75, 80]
def xS : List UInt8 := [120]
def eqS : List UInt8 := [61]
def promS : List UInt8 := [81, 82, 66, 78]
def signS : List UInt8 := [43, 35, 33, 63]
/-- The byte at a place is one of some. -/
def has (S L : List UInt8) (i : Nat) : Bool := decide (i < L.length) && S.contains (L.getD i 0)
def oneB (S L : List UInt8) (i : Nat) : Nat := if has S L i then 1 else 0
theorem oneB_le (S L : List UInt8) (i : Nat) : oneB S L i ≤ 1 := by unfold oneB; split <;> omega
theorem oneB_pos {S L : List UInt8} {i : Nat} (h : 1 ≤ oneB S L i) : has S L i = true := by
  unfold oneB at h
  split at h
  · assumption
  · omega
theorem oneB_yes {S L : List UInt8} {i : Nat} (h : has S L i = true) : oneB S L i = 1 := by unfold oneB; rw [if_pos h]
theorem oneB_no {S L : List UInt8} {i : Nat} (h : has S L i = false) : oneB S L i = 0 := by unfold oneB; rw [if_neg (by simp [h])]
/-- Two sets without a common byte. -/
theorem has_apart {S T L : List UInt8} {i : Nat} (ha : S.all (fun c => !T.contains c) = true) (h : has S L i = true) : has T L i = false := by
  unfold has at *
  rw [Bool.and_eq_true] at h
  have := List.all_eq_true.1 ha _ (by simpa using h.2)
  rw [h.1]
  simpa using this
/-- All of a text is made of signs. -/
def tailL : List UInt8 → Bool
  | [] => true
  | c :: t => if signS.contains c then tailL t else if (c :: t).take 4 == [101, 46, 112, 46] then tailL (t.drop 3) else false
termination_by l => l.length
decreasing_by
  · simp
  · simp; omega
def tailB (L : List UInt8) (i : Nat) : Bool := tailL (L.drop i)
theorem mid_take (L : List UInt8) (i : Nat) : mid L i (i + 4) = (L.drop i).take 4 := by
  unfold mid; rw [List.drop_take]; congr 1; omega
theorem tailB_step (L : List UInt8) (i : Nat) (h : i < L.length) : tailB L i = if has signS L i then tailB L (i + 1) else if decide (i + 4 ≤ L.length) && mid L i (i + 4) == [101, 46, 112, 46] then tailB L (i + 4) else false := by
  have hd : L.drop i = L.getD i 0 :: L.drop (i + 1) := by
    rw [List.drop_eq_getElem_cons h, List.getD_eq_getElem?_getD, List.getElem?_eq_getElem h]; rfl
  unfold tailB has
  rw [mid_take, hd, tailL, decide_eq_true h, Bool.true_and, List.drop_drop]
  by_cases h4 : i + 4 ≤ L.length
  · rw [decide_eq_true h4, Bool.true_and]
  · rw [decide_eq_false h4, Bool.false_and]
    have : ((L.getD i 0 :: L.drop (i + 1)).take 4 == [101, 46, 112, 46]) = false := by
      rw [beq_eq_false_iff_ne]
      intro e
      have := congrArg List.length e
      rw [List.length_take, List.length_cons, List.length_drop] at this
      simp at this; omega
    rw [this]
theorem tailB_end (L : List UInt8) (i : Nat) (h : L.length ≤ i) : tailB L i = true := by
  unfold tailB; rw [List.drop_eq_nil_of_le h, tailL]
/-- What a tail begins with. -/
theorem tail_head {L : List UInt8} {i : Nat} (ht : tailB L i = true) (h : i < L.length) : has signS L i = true ∨ (L.getD i 0 = 101 ∧ L.getD (i + 1) 0 = 46) := by
  rw [tailB_step L i h] at ht
  cases hs : has signS L i
  · rw [hs] at ht
    right
    have hm : decide (i + 4 ≤ L.length) && mid L i (i + 4) == [101, 46, 112, 46] := by
      cases hc : decide (i + 4 ≤ L.length) && mid L i (i + 4) == [101, 46, 112, 46]
      · rw [hc] at ht; simp at ht
      · rfl
    rw [Bool.and_eq_true, decide_eq_true_eq, beq_iff_eq, mid_take] at hm
    have g : ∀ j, j < 4 → L.getD (i + j) 0 = ([101, 46, 112, 46] : List UInt8).getD j 0 := fun j hj => by
      rw [← hm.2, List.getD_eq_getElem?_getD, List.getD_eq_getElem?_getD, List.getElem?_take_of_lt hj, List.getElem?_drop]
    exact ⟨g 0 (by omega), g 1 (by omega)⟩
  · exact .inl rfl
theorem has_lt {S L : List UInt8} {i : Nat} (h : has S L i = true) : i < L.length := by
  unfold has at h; rw [Bool.and_eq_true, decide_eq_true_eq] at h; exact h.1
theorem tail_no {S L : List UInt8} {i : Nat} (ha : S.all (fun c => !signS.contains c) = true) (h101 : S.contains 101 = false) (hS : has S L i = true) : tailB L i = false := by
  cases ht : tailB L i
  · rfl
  · rcases tail_head ht (has_lt hS) with h | ⟨h, _⟩
    · rw [has_apart ha hS] at h; cases h
    · unfold has at hS
      rw [h, h101, Bool.and_false] at hS; cases hS
theorem tail_fd {L : List UInt8} {i : Nat} (hf : has fileS L i = true) (hd : has digS L (i + 1) = true) : tailB L i = false := by
  cases ht : tailB L i
  · rfl
  · rcases tail_head ht (has_lt hf) with h | ⟨_, h⟩
    · rw [has_apart (T := signS) (by decide) hf] at h; cases h
    · unfold has at hd
      rw [h] at hd
      simp [digS] at hd

/-- A way to read a text: a piece, a file, a rank, an x (or none of each), a square, a promotion (or none), signs. -/
structure Hit (L : List UInt8) (a b c d p : Nat) : Prop where
  ha : a ≤ oneB pieceS L 0
  hb : b ≤ oneB fileS L a
  hc : c ≤ oneB digS L (a + b)
  hd : d ≤ oneB xS L (a + b + c)
  hf : has fileS L (a + b + c + d) = true
  hg : has digS L (a + b + c + d + 1) = true
  hp : (p = 2 ∧ has eqS L (a + b + c + d + 2) = true ∧ has promS L (a + b + c + d + 3) = true) ∨ p = 0
  ht : tailB L (a + b + c + d + 2 + p) = true
def bcd (L : List UInt8) (a : Nat) : Nat × Nat × Nat :=
  if has xS L a then (0, 0, 1) else if has digS L a then (0, 1, oneB xS L (a + 1)) else if has fileS L (a + 1) then (1, 0, 0) else if has xS L (a + 1) then (1, 0, 1)
  else if has fileS L (a + 2) && has digS L (a + 3) then (1, 1, 0) else if has xS L (a + 2) then (1, 1, 1) else (0, 0, 0)
theorem hit_a {L : List UInt8} {a b c d p : Nat} (h : Hit L a b c d p) : a = oneB pieceS L 0 := by
  have ha := h.ha
  by_cases e : a = oneB pieceS L 0
  · exact e
  · have h1 := oneB_le pieceS L 0
    obtain rfl : a = 0 := by omega
    have hP := oneB_pos (S := pieceS) (L := L) (i := 0) (by omega)
    have hb := h.hb
    rw [oneB_no (has_apart (T := fileS) (by decide) hP)] at hb
    obtain rfl : b = 0 := by omega
    have hc := h.hc
    rw [oneB_no (has_apart (T := digS) (by decide) hP)] at hc
    obtain rfl : c = 0 := by omega
    have hd := h.hd
    rw [oneB_no (has_apart (T := xS) (by decide) hP)] at hd
    obtain rfl : d = 0 := by omega
    have hf := h.hf
    rw [has_apart (T := fileS) (by decide) hP] at hf
    cases hf
theorem hit_bcd {L : List UInt8} {a b c d p : Nat} (h : Hit L a b c d p) : (b, c, d) = bcd L a := by
  obtain ⟨ha, hb, hc, hd, hf, hg, hp, ht⟩ := h
  have lb := oneB_le fileS L a
  have lc := oneB_le digS L (a + b)
  have ld := oneB_le xS L (a + b + c)
  have cb : b = 0 ∨ b = 1 := by omega
  have cc : c = 0 ∨ c = 1 := by omega
  have cd : d = 0 ∨ d = 1 := by omega
  unfold bcd
  rcases cb with rfl | rfl <;> rcases cc with rfl | rfl <;> rcases cd with rfl | rfl <;> try simp only [Nat.add_zero] at hb hc hd hf hg hp ht ⊢
  · have n1 := has_apart (T := xS) (by decide) hf
    have n2 := has_apart (T := digS) (by decide) hf
    have n3 := has_apart (T := fileS) (by decide) hg
    have n4 := has_apart (T := xS) (by decide) hg
    have n5 : (has fileS L (a + 2) && has digS L (a + 3)) = false := by
      cases h1 : has fileS L (a + 2)
      · rfl
      · cases h2 : has digS L (a + 3)
        · rfl
        · rcases hp with ⟨rfl, he, _⟩ | rfl
          · rw [has_apart (T := eqS) (by decide) h1] at he; cases he
          · rw [tail_fd h1 h2] at ht; cases ht
    have n6 : has xS L (a + 2) = false := by
      cases h1 : has xS L (a + 2)
      · rfl
      · rcases hp with ⟨rfl, he, _⟩ | rfl
        · rw [has_apart (T := eqS) (by decide) h1] at he; cases he
        · rw [tail_no (by decide) (by decide) h1] at ht; cases ht
    simp [n1, n2, n3, n4, n5, n6]
  · have n1 := oneB_pos hd
    simp [n1]
  · have n2 := oneB_pos hc
    have n1 := has_apart (T := xS) (by decide) n2
    have n3 := oneB_no (has_apart (T := xS) (by decide) hf)
    simp [n1, n2, n3]
  · have n2 := oneB_pos hc
    have n1 := has_apart (T := xS) (by decide) n2
    have n3 := oneB_yes (oneB_pos hd)
    simp [n1, n2, n3]
  · have n0 := oneB_pos hb
    have n1 := has_apart (T := xS) (by decide) n0
    have n2 := has_apart (T := digS) (by decide) n0
    simp [n1, n2, hf]
  · have n0 := oneB_pos hb
    have n1 := has_apart (T := xS) (by decide) n0
    have n2 := has_apart (T := digS) (by decide) n0
    have n3 := oneB_pos hd
    have n4 := has_apart (T := fileS) (by decide) n3
    simp [n1, n2, n3, n4]
  · have n0 := oneB_pos hb
    have n1 := has_apart (T := xS) (by decide) n0
    have n2 := has_apart (T := digS) (by decide) n0
    have n3 := oneB_pos hc
    have n4 := has_apart (T := fileS) (by decide) n3
    have n5 := has_apart (T := xS) (by decide) n3
    simp [n1, n2, n4, n5, hf, hg]
  · have n0 := oneB_pos hb
    have n1 := has_apart (T := xS) (by decide) n0
    have n2 := has_apart (T := digS) (by decide) n0
    have n3 := oneB_pos hc
    have n4 := has_apart (T := fileS) (by decide) n3
    have n5 := has_apart (T := xS) (by decide) n3
    have n6 := oneB_pos hd
    have n7 := has_apart (T := fileS) (by decide) n6
    simp [n1, n2, n4, n5, n6, n7]
theorem hit_p {L : List UInt8} {a b c d p : Nat} (h : Hit L a b c d p) : p = if has eqS L (a + b + c + d + 2) then 2 else 0 := by
  rcases h.hp with ⟨rfl, he, _⟩ | rfl
  · rw [if_pos he]
  · cases he : has eqS L (a + b + c + d + 2)
    · rfl
    · have ht := h.ht
      rw [Nat.add_zero, tail_no (by decide) (by decide) he] at ht; cases ht
theorem hit_uniq {L : List UInt8} {a b c d p a' b' c' d' p' : Nat} (h : Hit L a b c d p) (h' : Hit L a' b' c' d' p') : a = a' ∧ b = b' ∧ c = c' ∧ d = d' ∧ p = p' := by
  obtain rfl : a = a' := (hit_a h).trans (hit_a h').symm
  have e := (hit_bcd h).trans (hit_bcd h').symm
  simp only [Prod.mk.injEq] at e
  obtain ⟨rfl, rfl, rfl⟩ := e
  exact ⟨rfl, rfl, rfl, rfl, (hit_p h).trans (hit_p h').symm⟩
/-- The eight parts of a text that is read in a way. -/
def partsOf (L : List UInt8) (a b c d p : Nat) : List (List UInt8) :=
  [mid L 0 a, mid L a (a + b), mid L (a + b) (a + b + c), mid L (a + b + c) (a + b + c + d), mid L (a + b + c + d) (a + b + c + d + 1), mid L (a + b + c + d + 1) (a + b + c + d + 2), mid L (a + b + c + d + 2) (a + b + c + d + 2 + p), []]
end Go.Proofs.YtkbbncobgmepbaaDoor

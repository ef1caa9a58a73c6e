/- Options, the plain law: the words of an option's text. -/
import Derived.Test.YtkbbncobgmepbaaOptType
namespace Go.Proofs.Ytkbbncobgmepbaa
open Go.ChangeShapes Go.WideShapes Go.ChangeAt Go.RowKit Go.PlainAid
set_option linter.unusedVariables false
set_option linter.unusedSimpArgs false

theorem splitB_mid : ∀ (a b : List UInt8), splitB (a ++ 32 :: b) = splitB a ++ splitB b
  | [], b => by simp [splitB]
  | c :: a, b => by
    have ih := splitB_mid a b
    obtain ⟨x, r, h⟩ := splitB_ne a
    rw [List.cons_append]
    conv => lhs; unfold splitB
    conv => rhs; arg 1; unfold splitB
    by_cases hc : c = 32
    · rw [if_pos hc, if_pos hc, ih]; rfl
    · rw [if_neg hc, if_neg hc, ih, h]; rfl
def optionW : List UInt8 := [111, 112, 116, 105, 111, 110]
def nameW : List UInt8 := [110, 97, 109, 101]
def typeW : List UInt8 := [116, 121, 112, 101]
def varW : List UInt8 := [118, 97, 114]
def midW (f : Nat → List UInt8) : Nat → List (List UInt8)
  | 0 => [optionW, nameW, f 0, typeW, f 1]
  | k + 1 => midW f k ++ if f (2 + k) = [] then [] else [nameT k, f (2 + k)]
def endW (f : Nat → List UInt8) (l : List (List UInt8)) : Nat → List (List UInt8)
  | 0 => midW f 3
  | k + 1 => endW f l k ++ [varW, l.getD k []]
theorem split_midT {f : Nat → List UInt8} (h : ∀ i, i < 5 → NoB (f i)) : ∀ k, k ≤ 3 → splitB (midT f k) = midW f k
  | 0, _ => by
    have e : midT f 0 = optionW ++ 32 :: (nameW ++ 32 :: (f 0 ++ 32 :: (typeW ++ 32 :: f 1))) := by
      simp [midT, headT, optionW, nameW, typeW]
    rw [e, splitB_mid, splitB_mid, splitB_mid, splitB_mid, splitB_last (f 0) (h 0 (by omega)), splitB_last (f 1) (h 1 (by omega)), splitB_last optionW (by simp [NoB, optionW]), splitB_last nameW (by simp [NoB, nameW]), splitB_last typeW (by simp [NoB, typeW])]
    rfl
  | k + 1, hk => by
    have ih := split_midT h k (by omega)
    have hn : NoB (nameT k) := by
      have : k = 0 ∨ k = 1 ∨ k = 2 := by omega
      rcases this with rfl | rfl | rfl <;> simp [NoB, nameT]
    unfold midT midW
    by_cases he : f (2 + k) = []
    · rw [if_pos he, if_pos he, List.append_nil, List.append_nil, ih]
    · rw [if_neg he, if_neg he]
      have e : midT f k ++ ([32] ++ nameT k ++ [32] ++ f (2 + k)) = midT f k ++ 32 :: (nameT k ++ 32 :: f (2 + k)) := by simp
      rw [e, splitB_mid, splitB_mid, ih, splitB_last _ hn, splitB_last _ (h (2 + k) (by omega))]
      rfl
theorem split_endT {f : Nat → List UInt8} {l : List (List UInt8)} (h : ∀ i, i < 5 → NoB (f i)) (hl : ∀ i, i < l.length → NoB (l.getD i [])) : ∀ k, k ≤ l.length → splitB (endT f l k) = endW f l k
  | 0, _ => split_midT h 3 (by omega)
  | k + 1, hk => by
    have ih := split_endT h hl k (by omega)
    unfold endT endW
    have e : endT f l k ++ ([32, 118, 97, 114, 32] ++ l.getD k []) = endT f l k ++ 32 :: (varW ++ 32 :: l.getD k []) := by simp [varW]
    rw [e, splitB_mid, splitB_mid, ih, splitB_last varW (by simp [NoB, varW]), splitB_last _ (hl k (by omega))]
    rfl

/-! The words as pairs of a kind and a value: 0 name, 1 type, 2 default, 3 min, 4 max, 5 var. -/
def keyK (i : Nat) : List UInt8 := [nameW, typeW, nameT 0, nameT 1, nameT 2, varW].getD i []
def midP (f : Nat → List UInt8) : Nat → List (Nat × List UInt8)
  | 0 => [(0, f 0), (1, f 1)]
  | k + 1 => midP f k ++ if f (2 + k) = [] then [] else [(2 + k, f (2 + k))]
def endP (f : Nat → List UInt8) (l : List (List UInt8)) : Nat → List (Nat × List UInt8)
  | 0 => midP f 3
  | k + 1 => endP f l k ++ [(5, l.getD k [])]
def flat (ps : List (Nat × List UInt8)) : List (List UInt8) := ps.flatMap fun p => [keyK p.1, p.2]
theorem flat_app (a b : List (Nat × List UInt8)) : flat (a ++ b) = flat a ++ flat b := by simp [flat]
theorem midW_flat (f : Nat → List UInt8) : ∀ k, k ≤ 3 → midW f k = optionW :: flat (midP f k)
  | 0, _ => rfl
  | k + 1, hk => by
    have ih := midW_flat f k (by omega)
    unfold midW midP
    rw [ih, flat_app]
    have hk' : k = 0 ∨ k = 1 ∨ k = 2 := by omega
    by_cases he : f (2 + k) = []
    · rw [if_pos he, if_pos he]; simp [flat]
    · rw [if_neg he, if_neg he]
      rcases hk' with rfl | rfl | rfl <;> rfl
theorem endW_flat (f : Nat → List UInt8) (l : List (List UInt8)) : ∀ k, endW f l k = optionW :: flat (endP f l k)
  | 0 => midW_flat f 3 (by omega)
  | k + 1 => by
    have ih := endW_flat f l k
    unfold endW endP
    rw [ih, flat_app]
    rfl
/-- What the fields hold, and the values, behind some pairs. -/
def initF (j : Nat) : List UInt8 := if j = 1 then [110, 111, 116, 121, 112, 101] else []
def stF (ps : List (Nat × List UInt8)) : Nat → List UInt8 := ps.foldl (fun F p j => if j = p.1 then p.2 else F j) initF
def stV (ps : List (Nat × List UInt8)) : List (List UInt8) := ps.foldl (fun V p => if p.1 = 5 then V ++ [p.2] else V) []
theorem stF_app (ps : List (Nat × List UInt8)) (p : Nat × List UInt8) (j : Nat) : stF (ps ++ [p]) j = if j = p.1 then p.2 else stF ps j := by
  unfold stF; rw [List.foldl_append]; rfl
theorem stV_app (ps : List (Nat × List UInt8)) (p : Nat × List UInt8) : stV (ps ++ [p]) = if p.1 = 5 then stV ps ++ [p.2] else stV ps := by
  unfold stV; rw [List.foldl_append]; rfl
theorem stF_mid (f : Nat → List UInt8) : ∀ k, k ≤ 3 → ∀ j, j < 5 → stF (midP f k) j = if j < 2 + k then f j else []
  | 0, _, j, hj => by
    have : j = 0 ∨ j = 1 ∨ j = 2 ∨ j = 3 ∨ j = 4 := by omega
    rcases this with rfl | rfl | rfl | rfl | rfl <;> simp [midP, stF, initF]
  | k + 1, hk, j, hj => by
    have ih := stF_mid f k (by omega) j hj
    unfold midP
    by_cases he : f (2 + k) = []
    · rw [if_pos he, List.append_nil, ih]
      by_cases e : j = 2 + k
      · subst e; rw [if_neg (by omega), if_pos (by omega), he]
      · by_cases e2 : j < 2 + k
        · rw [if_pos e2, if_pos (by omega)]
        · rw [if_neg e2, if_neg (by omega)]
    · rw [if_neg he, stF_app, ih]
      by_cases e : j = 2 + k
      · subst e; rw [if_pos rfl, if_pos (by omega)]
      · rw [if_neg e]
        by_cases e2 : j < 2 + k
        · rw [if_pos e2, if_pos (by omega)]
        · rw [if_neg e2, if_neg (by omega)]
theorem stF_end (f : Nat → List UInt8) (l : List (List UInt8)) : ∀ k, ∀ j, j < 5 → stF (endP f l k) j = f j
  | 0, j, hj => by
    have := stF_mid f 3 (by omega) j hj
    rw [if_pos (by omega)] at this
    exact this
  | k + 1, j, hj => by
    unfold endP
    rw [stF_app, if_neg (by show ¬ j = 5; omega), stF_end f l k j hj]
theorem stV_mid (f : Nat → List UInt8) : ∀ k, k ≤ 3 → stV (midP f k) = []
  | 0, _ => by simp [midP, stV]
  | k + 1, hk => by
    have ih := stV_mid f k (by omega)
    unfold midP
    by_cases he : f (2 + k) = []
    · rw [if_pos he, List.append_nil, ih]
    · rw [if_neg he, stV_app, if_neg (by show ¬ 2 + k = 5; omega), ih]
theorem stV_end (f : Nat → List UInt8) (l : List (List UInt8)) : ∀ k, k ≤ l.length → stV (endP f l k) = l.take k
  | 0, _ => stV_mid f 3 (by omega)
  | k + 1, hk => by
    have ih := stV_end f l k (by omega)
    unfold endP
    rw [stV_app, if_pos rfl, ih, List.take_add_one, List.getElem?_eq_getElem (by omega)]
    simp [List.getD_eq_getElem?_getD, List.getElem?_eq_getElem (show k < l.length by omega)]

/-! The words by their places. -/
theorem flat_len : ∀ ps, (flat ps).length = 2 * ps.length
  | [] => rfl
  | p :: ps => by
    have ih := flat_len ps
    have e : flat (p :: ps) = [keyK p.1, p.2] ++ flat ps := rfl
    rw [e, List.length_append, ih]; simp; omega
theorem flat_key : ∀ (ps : List (Nat × List UInt8)) (q : Nat), q < ps.length → (flat ps).getD (2 * q) [] = keyK (ps.getD q (0, [])).1 ∧ (flat ps).getD (2 * q + 1) [] = (ps.getD q (0, [])).2
  | p :: ps, 0, _ => ⟨rfl, rfl⟩
  | p :: ps, q + 1, h => by
    have ih := flat_key ps q (by simp at h; omega)
    have e : flat (p :: ps) = keyK p.1 :: p.2 :: flat ps := rfl
    rw [e, show 2 * (q + 1) = 2 * q + 1 + 1 by omega]
    exact ih
theorem take_pair {ps : List (Nat × List UInt8)} {q : Nat} (h : q < ps.length) : ps.take (q + 1) = ps.take q ++ [ps.getD q (0, [])] := by
  rw [List.take_add_one, List.getElem?_eq_getElem h]
  simp [List.getD_eq_getElem?_getD, List.getElem?_eq_getElem h]
/-- Every pair's kind, and the type's value. -/
theorem midP_kind (f : Nat → List UInt8) : ∀ k, k ≤ 3 → ∀ p ∈ midP f k, p.1 ≤ 5 ∧ (p.1 = 1 → p.2 = f 1)
  | 0, _, p, hp => by
    simp only [midP, List.mem_cons, List.mem_nil_iff, or_false] at hp
    rcases hp with rfl | rfl <;> simp
  | k + 1, hk, p, hp => by
    unfold midP at hp
    rcases List.mem_append.1 hp with hp | hp
    · exact midP_kind f k (by omega) p hp
    · split at hp
      · cases hp
      · simp only [List.mem_cons, List.mem_nil_iff, or_false] at hp
        subst hp
        exact ⟨by show 2 + k ≤ 5; omega, fun h => by have h : 2 + k = 1 := h; omega⟩
theorem endP_kind (f : Nat → List UInt8) (l : List (List UInt8)) : ∀ k, ∀ p ∈ endP f l k, p.1 ≤ 5 ∧ (p.1 = 1 → p.2 = f 1)
  | 0, p, hp => midP_kind f 3 (by omega) p hp
  | k + 1, p, hp => by
    unfold endP at hp
    rcases List.mem_append.1 hp with hp | hp
    · exact endP_kind f l k p hp
    · simp only [List.mem_cons, List.mem_nil_iff, or_false] at hp
      subst hp
      exact ⟨by show 5 ≤ 5; omega, fun h => by have h : 5 = 1 := h; omega⟩
end Go.Proofs.Ytkbbncobgmepbaa

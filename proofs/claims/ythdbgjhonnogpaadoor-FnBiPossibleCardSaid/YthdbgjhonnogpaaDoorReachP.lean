/- What a piece sees, way by way: plain facts for the walk of spec.Reach. -/
import Derived.Test.YthdbgjhonnogpaaDoorBiOf
namespace Go.Proofs.YthdbgjhonnogpaaDoor
open Plain

/-- Along one way: up to the first taken square for a piece that goes on, else one step. -/
def stepL (far : Bool) (f : Nat → Bool) (l : List Nat) : List Nat := if far then upTo f l else l.take 1
def reachL (k : Int) (f : Nat → Bool) (s : Nat) : List Nat := (waysL k).flatMap fun d => stepL (farL k) f (ray s d.1 d.2)
def accL (k : Int) (f : Nat → Bool) (s : Nat) (n : Nat) : List Nat := ((waysL k).take n).flatMap fun d => stepL (farL k) f (ray s d.1 d.2)
theorem accL_zero (k : Int) (f : Nat → Bool) (s : Nat) : accL k f s 0 = [] := rfl
theorem accL_all (k : Int) (f : Nat → Bool) (s : Nat) : accL k f s (waysL k).length = reachL k f s := by simp [accL, reachL]
theorem accL_succ (k : Int) (f : Nat → Bool) (s n : Nat) (h : n < (waysL k).length) : accL k f s (n + 1) = accL k f s n ++ stepL (farL k) f (ray s ((waysL k).getD n (0, 0)).1 ((waysL k).getD n (0, 0)).2) := by
  rw [accL, List.take_succ_eq_append_getElem h, List.flatMap_append]
  have e : (waysL k).getD n (0, 0) = (waysL k)[n] := by simp [List.getD, h]
  rw [e]
  simp [accL]
theorem rayGo_length : ∀ (n : Nat) (f r df dr : Int), (rayGo n f r df dr).length ≤ n
  | 0, _, _, _, _ => by simp [rayGo]
  | n + 1, f, r, df, dr => by
    unfold rayGo
    split
    · have := rayGo_length n (f + df) (r + dr) df dr
      simp; omega
    · simp
theorem upTo_length (f : Nat → Bool) : ∀ l : List Nat, (upTo f l).length ≤ l.length
  | [] => by simp [upTo]
  | s :: l => by
    have := upTo_length f l
    simp only [upTo, List.length_cons]
    split <;> simp <;> omega
theorem stepL_length (far : Bool) (f : Nat → Bool) (l : List Nat) : (stepL far f l).length ≤ l.length := by
  unfold stepL; split
  · exact upTo_length f l
  · rw [List.length_take]; omega
theorem rayGo_lt : ∀ (n : Nat) (f r df dr : Int), ∀ t ∈ rayGo n f r df dr, t < 64
  | 0, _, _, _, _ => by simp [rayGo]
  | n + 1, f, r, df, dr => by
    unfold rayGo
    split
    · rename_i h
      intro t ht
      simp only [List.mem_cons] at ht
      rcases ht with rfl | ht
      · omega
      · exact rayGo_lt n _ _ _ _ t ht
    · simp
theorem upTo_sub (f : Nat → Bool) : ∀ (l : List Nat), ∀ t ∈ upTo f l, t ∈ l
  | [], t, h => by simp [upTo] at h
  | s :: l, t, h => by
    simp only [upTo, List.mem_cons] at h
    rcases h with rfl | h
    · simp
    · split at h
      · simp at h
      · exact List.mem_cons_of_mem _ (upTo_sub f l t h)
theorem stepL_sub (far : Bool) (f : Nat → Bool) (l : List Nat) : ∀ t ∈ stepL far f l, t ∈ l := by
  unfold stepL; split
  · exact upTo_sub f l
  · intro t h; exact List.mem_of_mem_take h
theorem reachL_lt (k : Int) (f : Nat → Bool) (s : Nat) : ∀ t ∈ reachL k f s, t < 64 := by
  intro t h
  simp only [reachL, List.mem_flatMap] at h
  obtain ⟨d, _, h⟩ := h
  exact rayGo_lt _ _ _ _ _ t (stepL_sub _ _ _ t h)

/-- What is still to come along a way in front of step n. -/
def restL (far : Bool) (f : Nat → Bool) (s : Nat) (dx dy : Int) (n : Nat) : List Nat :=
  stepL far f (rayGo (8 - n) (((s % 8 : Nat) : Int) + ((n : Int) - 1) * dx) (((s / 8 : Nat) : Int) + ((n : Int) - 1) * dy) dx dy)
theorem restL_one (far : Bool) (f : Nat → Bool) (s : Nat) (dx dy : Int) : restL far f s dx dy 1 = stepL far f (ray s dx dy) := by
  simp [restL, ray]
theorem restL_end (far : Bool) (f : Nat → Bool) (s : Nat) (dx dy : Int) : restL far f s dx dy 8 = [] := by
  cases far <;> simp [restL, rayGo, stepL, upTo]
theorem rest_go (s n : Nat) (dx dy : Int) (h : n < 8) (h1 : 1 ≤ n) :
    rayGo (8 - n) (((s % 8 : Nat) : Int) + ((n : Int) - 1) * dx) (((s / 8 : Nat) : Int) + ((n : Int) - 1) * dy) dx dy =
      if atOf (((s % 8 : Nat) : Int) + (n : Int) * dx) (((s / 8 : Nat) : Int) + (n : Int) * dy) < 0 then [] else
      (atOf (((s % 8 : Nat) : Int) + (n : Int) * dx) (((s / 8 : Nat) : Int) + (n : Int) * dy)).toNat ::
        rayGo (8 - (n + 1)) (((s % 8 : Nat) : Int) + (((n + 1 : Nat) : Int) - 1) * dx) (((s / 8 : Nat) : Int) + (((n + 1 : Nat) : Int) - 1) * dy) dx dy := by
  obtain ⟨m, hm⟩ : ∃ m, 8 - n = m + 1 := ⟨7 - n, by omega⟩
  have hm' : 8 - (n + 1) = m := by omega
  have e1 : ((s % 8 : Nat) : Int) + ((n : Int) - 1) * dx + dx = ((s % 8 : Nat) : Int) + (n : Int) * dx := by rw [Int.sub_mul]; omega
  have e2 : ((s / 8 : Nat) : Int) + ((n : Int) - 1) * dy + dy = ((s / 8 : Nat) : Int) + (n : Int) * dy := by rw [Int.sub_mul]; omega
  have e3 : (((n + 1 : Nat) : Int) - 1) = (n : Int) := by omega
  rw [hm, hm', rayGo, e1, e2, e3]
  unfold atOf
  split
  · rename_i h; rw [if_neg (by omega)]
  · rename_i h; rw [if_pos (by omega)]
theorem restL_out {far : Bool} {f : Nat → Bool} {s n : Nat} {dx dy : Int} (h : n < 8) (h1 : 1 ≤ n) (ha : atOf (((s % 8 : Nat) : Int) + (n : Int) * dx) (((s / 8 : Nat) : Int) + (n : Int) * dy) < 0) :
    restL far f s dx dy n = [] := by
  rw [restL, rest_go s n dx dy h h1, if_pos ha]; cases far <;> simp [stepL, upTo]
theorem restL_stop {far : Bool} {f : Nat → Bool} {s n : Nat} {dx dy : Int} {t : Nat} (h : n < 8) (h1 : 1 ≤ n) (ha : atOf (((s % 8 : Nat) : Int) + (n : Int) * dx) (((s / 8 : Nat) : Int) + (n : Int) * dy) = t)
    (hs : far = false ∨ f t = true) : restL far f s dx dy n = [t] := by
  rw [restL, rest_go s n dx dy h h1, ha, if_neg (by omega), Int.toNat_natCast]
  rcases hs with rfl | hs
  · simp [stepL]
  · cases far <;> simp [stepL, upTo, hs]
theorem restL_on {f : Nat → Bool} {s n : Nat} {dx dy : Int} {t : Nat} (h : n < 8) (h1 : 1 ≤ n) (ha : atOf (((s % 8 : Nat) : Int) + (n : Int) * dx) (((s / 8 : Nat) : Int) + (n : Int) * dy) = t)
    (hs : f t = false) : restL true f s dx dy n = t :: restL true f s dx dy (n + 1) := by
  rw [restL, rest_go s n dx dy h h1, ha, if_neg (by omega), Int.toNat_natCast]
  simp [stepL, upTo, hs, restL]
theorem waysL_len (k : Int) : (waysL k).length = 4 ∨ (waysL k).length = 8 := by
  unfold waysL
  split
  · exact .inr rfl
  split
  · exact .inl rfl
  split
  · exact .inl rfl
  exact .inr rfl
theorem waysL_small (k : Int) : ∀ d ∈ waysL k, -2 ≤ d.1 ∧ d.1 ≤ 2 ∧ -2 ≤ d.2 ∧ d.2 ≤ 2 := by
  have h : ∀ l : List (Int × Int), l = straightL ++ slantingL ∨ l = straightL ∨ l = slantingL ∨ l = jumpsL → ∀ d ∈ l, -2 ≤ d.1 ∧ d.1 ≤ 2 ∧ -2 ≤ d.2 ∧ d.2 ≤ 2 := by
    intro l hl; rcases hl with rfl | rfl | rfl | rfl <;> decide
  apply h
  unfold waysL
  split; · exact .inl rfl
  split; · exact .inr (.inl rfl)
  split; · exact .inr (.inr (.inl rfl))
  exact .inr (.inr (.inr rfl))
theorem mul_small (q : Nat) (d : Int) (hq : q < 8) (hd : -2 ≤ d ∧ d ≤ 2) : -16 ≤ (q : Int) * d ∧ (q : Int) * d ≤ 16 := by
  have h : d = -2 ∨ d = -1 ∨ d = 0 ∨ d = 1 ∨ d = 2 := by omega
  rcases h with rfl | rfl | rfl | rfl | rfl <;> omega
theorem atOf_range (f r : Int) : -1 ≤ atOf f r ∧ atOf f r < 64 := by unfold atOf; split <;> omega
theorem reachL_length (k : Int) (f : Nat → Bool) (s : Nat) : (reachL k f s).length ≤ 56 := by
  have h : ∀ n, n ≤ (waysL k).length → (accL k f s n).length ≤ 7 * n := by
    intro n
    induction n with
    | zero => intro _; simp [accL]
    | succ n ih =>
      intro hn
      rw [accL_succ _ _ _ _ (by omega), List.length_append]
      have h1 := ih (by omega)
      have h2 := stepL_length (farL k) f (ray s ((waysL k).getD n (0, 0)).1 ((waysL k).getD n (0, 0)).2)
      have h3 := rayGo_length 7 ((s % 8 : Nat) : Int) ((s / 8 : Nat) : Int) ((waysL k).getD n (0, 0)).1 ((waysL k).getD n (0, 0)).2
      unfold ray at h2 ⊢
      omega
  have h1 := h _ (Nat.le_refl _)
  rw [accL_all] at h1
  have h2 := waysL_len k
  omega
end Go.Proofs.YthdbgjhonnogpaaDoor

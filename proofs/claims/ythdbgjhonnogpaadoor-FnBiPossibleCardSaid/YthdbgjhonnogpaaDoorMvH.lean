/- Lists of moves in plain Lean: three cells a move; a slice of moves of one's own. -/
import Derived.Test.YthdbgjhonnogpaaDoorMvG
namespace Go.Proofs.YthdbgjhonnogpaaDoor
open Go.ChangeShapes Go.WideShapes Go.ChangeAt Go.RowKit Plain
set_option maxHeartbeats 4000000
set_option linter.unusedVariables false
set_option linter.unusedSimpArgs false

/-- A move: from, to, promotion. -/
abbrev M3 := Nat × Nat × Nat
abbrev m0 : M3 := (0, 0, 0)
def encM (m : M3) : List Value := [.int .i64 (m.1 : Int), .int .i64 (m.2.1 : Int), .int .i64 (m.2.2 : Int)]
def mF (m : M3) : Nat → Value
  | 0 => .int .i64 (m.1 : Int) | 1 => .int .i64 (m.2.1 : Int) | _ => .int .i64 (m.2.2 : Int)
def mvs (l : List M3) : List Value := l.flatMap encM
theorem mvs_app (l : List M3) (m : M3) : mvs (l ++ [m]) = mvs l ++ encM m := by simp [mvs]
theorem mvs_apps (l r : List M3) : mvs (l ++ r) = mvs l ++ mvs r := by simp [mvs]
theorem mvs_len (l : List M3) : (mvs l).length = l.length * 3 := by
  induction l with
  | nil => rfl
  | cons x r ih => simp [mvs, encM] at ih ⊢; omega
theorem mvs_get : ∀ (l : List M3) (i : Nat) (h : i < l.length) (j : Nat) (hj : j < 3), (mvs l)[i * 3 + j]? = some (mF (l.getD i m0) j)
  | x :: r, 0, h, j, hj => by
    have : j = 0 ∨ j = 1 ∨ j = 2 := by omega
    rcases this with rfl | rfl | rfl <;> rfl
  | x :: r, i + 1, h, j, hj => by
    have := mvs_get r i (by simpa using h) j hj
    have e : mvs (x :: r) = encM x ++ mvs r := rfl
    rw [e, List.getElem?_append_right (by simp [encM]; omega), show (i + 1) * 3 + j - (encM x).length = i * 3 + j by simp [encM]; omega, this]
    simp
def MvOk (m : M3) : Prop := m.1 < 64 ∧ m.2.1 < 64 ∧ m.2.2 ≤ 5
theorem mv_get {l : List M3} (h : ∀ m ∈ l, MvOk m) {i : Nat} (hi : i < l.length) : MvOk (l.getD i m0) := by
  rw [List.getD_eq_getElem?_getD, List.getElem?_eq_getElem hi]
  exact h _ (List.getElem_mem hi)
/-- A slice of moves of one's own, in a walk. -/
def MvOwn (B n : Nat) (v : Value) (w : World) : Prop := ∃ l : List M3, (∀ m ∈ l, MvOk m) ∧ l.length ≤ n ∧ w.ownsRow B 58 3 v l.length (mvs l)
theorem MvOwn.mono {B n m : Nat} {v : Value} {w : World} (h : MvOwn B n v w) (hm : n ≤ m) : MvOwn B m v w := by
  obtain ⟨l, h1, h2, h3⟩ := h
  exact ⟨l, h1, by omega, h3⟩
theorem MvOwn.nil (B n : Nat) (w : World) : MvOwn B n (.slice none 0 0) w := ⟨[], by simp, by simp, World.ownsRow_nil _ _ _ _⟩
theorem mv_ok_app {l : List M3} {m : M3} (h1 : ∀ x ∈ l, MvOk x) (hm : MvOk m) : ∀ x ∈ l ++ [m], MvOk x := fun x hx => by
  rcases List.mem_append.1 hx with hx | hx
  · exact h1 x hx
  · simp at hx; subst hx; exact hm
theorem MvOwn.next {B n : Nat} {v : Value} {w : World} {l : List M3} {m : M3} (h1 : ∀ x ∈ l, MvOk x) (hm : MvOk m) (h2 : l.length ≤ n) (h3 : w.ownsRow B 58 3 v (l.length + 1) (mvs l ++ encM m)) : MvOwn B (n + 1) v w :=
  ⟨l ++ [m], mv_ok_app h1 hm, by simp; omega, by simpa [mvs] using h3⟩
theorem MvOwn.weak {B B' n : Nat} {v : Value} {w : World} (h : MvOwn B n v w) (hB : B' ≤ B) : MvOwn B' n v w := by
  obtain ⟨l, h1, h2, h3⟩ := h
  exact ⟨l, h1, h2, own_weaker h3 hB⟩
theorem MvOwn.block {B n : Nat} {v : Value} {w : World} (h : MvOwn B n v w) : v.ownBlock = none ∨ ∃ b, v.ownBlock = some b ∧ B ≤ b ∧ b < w.heap.size := by
  obtain ⟨l, _, _, ho⟩ := h
  cases hv : v.ownBlock with
  | none => exact .inl rfl
  | some b => exact .inr ⟨b, rfl, (ho.lt b hv).1, (ho.lt b hv).2⟩
theorem MvOwn.below {B n : Nat} {v : Value} {w w' : World} (h : MvOwn B n v w) (hb : Below w.heap.size w w') : MvOwn B n v w' := by
  obtain ⟨l, h1, h2, h3⟩ := h
  exact ⟨l, h1, h2, own_belowI h3 hb⟩
/-- A slice of moves for reading: the block's cells. -/
def MvAt (l : List M3) (gq : Nat) (w : World) : Prop := ∀ i, i < l.length → ∀ j, j < 3 → w.cell? ⟨gq, i * 3 + j, none⟩ = some (mF (l.getD i m0) j)
theorem mv_cells {B n : Nat} {v : Value} {l : List M3} {w : World} (hn : n = l.length) (h : w.ownsRow B 58 3 v n (mvs l)) : ∃ a c, v = .slice a n c ∧ (0 < n → ∃ gq, a = some ⟨gq, 0, none⟩ ∧ B ≤ gq ∧ gq < w.heap.size ∧ MvAt l gq w) := by
  subst hn
  have hown := h
  rcases h.2 with ⟨hv, h0⟩ | ⟨g, cap, cur, hv, hB, hg, _⟩
  · exact ⟨none, 0, by rw [hv]; congr 1; omega, fun hp => by omega⟩
  · refine ⟨_, _, hv, fun _ => ⟨g, rfl, hB, lt_of_block hg, fun i hi j hj => ?_⟩⟩
    subst hv
    rw [hown.cellAt (i * 3 + j) (by omega)]
    exact mvs_get l i hi j hj
theorem MvAt.below {l : List M3} {gq B : Nat} {w w' : World} (h : MvAt l gq w) (hb : Below B w w') (hg : gq < B) : MvAt l gq w' := fun i hi j hj => by
  rw [hb.cell (show (⟨gq, i * 3 + j, none⟩ : Addr).block < B from hg)]; exact h i hi j hj
theorem MvAt.of_block {l : List M3} {gq : Nat} {w w' : World} (h : MvAt l gq w) (hb : w'.heap[gq]? = w.heap[gq]?) : MvAt l gq w' := fun i hi j hj => by
  rw [World.cell?_of_block hb]; exact h i hi j hj
theorem infoMv : (Tryd.prog.info? 58).map (fun i => (i.zero, i.size, i.bytes)) = some (some (.agg #[.int .i64 0, .int .i64 0, .int .i64 0]), 3, 24) := by kernel_rfl
theorem one_encM (m : M3) : ∀ u ∈ encM m, u.oneCell' = true := by
  intro u hu
  simp [encM] at hu
  rcases hu with rfl | rfl | rfl <;> rfl
end Go.Proofs.YthdbgjhonnogpaaDoor

/- A book's entries: the law's counts, comparison, choice by a key. -/
import Derived.Test.YtpoomblloahahaaGreatDoorPbA
namespace Go.Proofs.YtpoomblloahahaaGreatDoor
open Go.ChangeShapes Go.WideShapes Go.ChangeAt Go.RowKit Go.PlainAid
set_option maxHeartbeats 1000000
set_option linter.unusedVariables false
set_option linter.unusedSimpArgs false

abbrev e0 : En := (0, 0, 0, 0)
theorem ents_get : ∀ (l : List En) (i : Nat) (h : i < l.length) (j : Nat) (hj : j < 4), (ents l)[i * 4 + j]? = some (enF (l.getD i e0) j)
  | x :: r, 0, h, j, hj => by
    have : j = 0 ∨ j = 1 ∨ j = 2 ∨ j = 3 := by omega
    rcases this with rfl | rfl | rfl | rfl <;> rfl
  | x :: r, i + 1, h, j, hj => by
    have := ents_get r i (by simpa using h) j hj
    have e : ents (x :: r) = encE x ++ ents r := rfl
    rw [e, List.getElem?_append_right (by simp [encE]; omega), show (i + 1) * 4 + j - (encE x).length = i * 4 + j by simp [encE]; omega, this]
    simp
/-- A slice of entries, for reading. -/
def EnS (W : World) (v : Value) (l : List En) : Prop :=
  ∃ a c, v = .slice a l.length c ∧ (0 < l.length → ∃ g, a = some ⟨g, 0, none⟩ ∧ g < W.heap.size ∧ ∀ i, i < l.length → ∀ j, j < 4 → W.cell? ⟨g, i * 4 + j, none⟩ = some (enF (l.getD i e0) j))
theorem EnS.below {W W' : World} {v : Value} {l : List En} (h : EnS W v l) (hb : Below W.heap.size W W') : EnS W' v l := by
  obtain ⟨a, c, rfl, h⟩ := h
  refine ⟨a, c, rfl, fun h0 => ?_⟩
  obtain ⟨g, rfl, hg, hc⟩ := h h0
  exact ⟨g, rfl, Nat.lt_of_lt_of_le hg hb.size, fun i hi j hj => by rw [hb.cell (show (⟨g, i * 4 + j, none⟩ : Addr).block < W.heap.size from hg)]; exact hc i hi j hj⟩
theorem ens_own {w : World} {B t : Nat} {v : Value} {l : List En} (h : w.ownsRow B t 4 v l.length (ents l)) : EnS w v l := by
  obtain ⟨_, h | ⟨g, cap, cur, hv, hB, hg, hc1, hc2, hc3, hc4⟩⟩ := h
  · obtain ⟨rfl, h0⟩ := h
    have hl : l.length = 0 := by first | exact h0 | exact h0.1 | omega
    exact ⟨none, 0, by rw [hl], fun h => by omega⟩
  · refine ⟨_, cap, hv, fun h0 => ⟨g, rfl, ?_, fun i hi j hj => ?_⟩⟩
    · rcases Nat.lt_or_ge g w.heap.size with h | h
      · exact h
      · rw [Array.getElem?_eq_none h] at hg; cases hg
    · unfold World.cell?
      rw [hg]
      have h1 : (cur.toList.take (l.length * 4))[i * 4 + j]? = (ents l)[i * 4 + j]? := by rw [hc4]
      rw [List.getElem?_take_of_lt (by omega), ents_get l i hi j hj] at h1
      simpa using h1
def enV (e : En) : Value := .agg #[.int .u64 e.1, .int .u16 e.2.1, .int .u16 e.2.2.1, .int .u32 e.2.2.2]
/-- That two entries are one, or where they part first. -/
def EnEq (x e : En) : Prop := x = e ∨ (x ≠ e ∧ (x.1 == e.1) = false) ∨ (x ≠ e ∧ (x.1 == e.1) = true ∧ (x.2.1 == e.2.1) = false) ∨ (x ≠ e ∧ (x.1 == e.1) = true ∧ (x.2.1 == e.2.1) = true ∧ (x.2.2.1 == e.2.2.1) = false) ∨ (x ≠ e ∧ (x.1 == e.1) = true ∧ (x.2.1 == e.2.1) = true ∧ (x.2.2.1 == e.2.2.1) = true ∧ (x.2.2.2 == e.2.2.2) = false)
theorem enEq (x e : En) : EnEq x e := by
  obtain ⟨a, b, c, d⟩ := x
  obtain ⟨a', b', c', d'⟩ := e
  unfold EnEq
  simp only [ne_eq, Prod.mk.injEq, beq_iff_eq, beq_eq_false_iff_ne]
  by_cases h1 : a = a' <;> by_cases h2 : b = b' <;> by_cases h3 : c = c' <;> by_cases h4 : d = d' <;> simp [h1, h2, h3, h4]
theorem count_succ (l : List En) (e : En) (k : Nat) (h : k < l.length) : (l.take (k + 1)).count e = (l.take k).count e + if l.getD k e0 = e then 1 else 0 := by
  rw [List.take_add_one, List.getElem?_eq_getElem h, List.getD_eq_getElem?_getD, List.getElem?_eq_getElem h, List.count_append]
  simp [List.count_singleton]
set_option maxRecDepth 100000 in
theorem poCount_any (v : Value) (l : List En) (e : En) (W : World) (hE : EnS W v l) (hl : l.length ≤ 1000) :
    Calls Tryz.prog 15 #[v, enV e] W fun r w' => r = .returned (.int .i64 (l.count e : Nat)) ∧ Below W.heap.size W w' := by
  obtain ⟨a, c, rfl, hE⟩ := hE
  have k0 := row_lit W #[.int .u64 e.1, .int .u16 e.2.1, .int .u16 e.2.2.1, .int .u32 e.2.2.2] 30
  have kB : Below W.heap.size W (W.alloc (.cells #[.int .u64 e.1, .int .u16 e.2.1, .int .u16 e.2.2.1, .int .u32 e.2.2.2] 30)) := (Below.refl _ _).alloc (Nat.le_refl _) _
  unfold enV
  go_enter Tryz.func15, Tryz.ntmps15
  go_wp2
  generalize (W.alloc (.cells #[.int .u64 e.1, .int .u16 e.2.1, .int .u16 e.2.2.1, .int .u32 e.2.2.2] 30)) = w1 at *
  go_loopw [5, 6] (fun n i wr => ∃ k : Nat, k ≤ l.length ∧ i = .int .i64 (k : Int) ∧ n = .int .i64 (((l.take k).count e : Nat) : Int) ∧ wr.rowIs W.heap.size 30 4 (fun j => (#[.int .u64 e.1, .int .u16 e.2.1, .int .u16 e.2.2.1, .int .u32 e.2.2.2] : Array Value).getD j undef) ∧ Below W.heap.size W wr) (fun _ i _ => l.length - (intOf i).toNat)
  case atStart => exact ⟨0, by omega, rfl, by simp, k0, kB⟩
  case round =>
    clear k0 kB
    obtain ⟨k, hk, rfl, rfl, k0, kB⟩ := hrel
    by_cases hlt : k < l.length
    · obtain ⟨g, rfl, hg, hc⟩ := hE (by omega)
      clear hE
      have hcn : (l.take k).count e ≤ k := by
        have h1 := List.count_le_length (a := e) (l := l.take k)
        have h2 : (l.take k).length ≤ k := by simp; omega
        omega
      have hcs := count_succ l e k hlt
      have c0 := (kB.cell (show (⟨g, k * 4 + 0, none⟩ : Addr).block < W.heap.size from hg)).trans (hc k hlt 0 (by omega))
      have c1 := (kB.cell (show (⟨g, k * 4 + 1, none⟩ : Addr).block < W.heap.size from hg)).trans (hc k hlt 1 (by omega))
      have c2 := (kB.cell (show (⟨g, k * 4 + 2, none⟩ : Addr).block < W.heap.size from hg)).trans (hc k hlt 2 (by omega))
      have c3 := (kB.cell (show (⟨g, k * 4 + 3, none⟩ : Addr).block < W.heap.size from hg)).trans (hc k hlt 3 (by omega))
      generalize l.getD k e0 = x at *
      simp only [enF, Nat.add_zero] at c0 c1 c2 c3
      have b0 : wr.cell? ⟨W.heap.size, 0, none⟩ = some (.int .u64 e.1) := k0.cell (i := 0) (by simp)
      have b1 : wr.cell? ⟨W.heap.size, 1, none⟩ = some (.int .u16 e.2.1) := k0.cell (i := 1) (by simp)
      have b2 : wr.cell? ⟨W.heap.size, 2, none⟩ = some (.int .u16 e.2.2.1) := k0.cell (i := 2) (by simp)
      have b3 : wr.cell? ⟨W.heap.size, 3, none⟩ = some (.int .u32 e.2.2.2) := k0.cell (i := 3) (by simp)
      have hn0 : ∀ n, (wr.drewN n).rowIs W.heap.size 30 4 (fun j => (#[.int .u64 e.1, .int .u16 e.2.1, .int .u16 e.2.2.1, .int .u32 e.2.2.2] : Array Value).getD j undef) ∧ Below W.heap.size W (wr.drewN n) := fun n => ⟨k0.of_block rfl, kB.trans ⟨rfl, rfl, rfl, Nat.le_refl _, fun _ _ => rfl⟩⟩
      replace hn0 := Lib.hid hn0
      clear hc k0 kB
      rcases enEq x e with rfl | ⟨hne, f1⟩ | ⟨hne, f1, f2⟩ | ⟨hne, f1, f2, f3⟩ | ⟨hne, f1, f2, f3, f4⟩
      · rw [if_pos rfl] at hcs
        replace hcs := Lib.hid hcs
        generalize (l.take k).count x = n at *
        go_wp2_with (fail)
        go_quiet (fail)
        go_wp2_with (fail)
        exact ⟨⟨k + 1, by omega, by go_num, by rw [hcs.out]; go_num, (hn0.out _).1, (hn0.out _).2⟩, by simp [intOf]; omega⟩
      all_goals
        rw [if_neg hne] at hcs
        replace hcs := Lib.hid hcs
        clear hne
        generalize (l.take k).count e = n at *
        go_wp2_with (fail)
        go_quiet (fail)
        go_wp2_with (fail)
        exact ⟨⟨k + 1, by omega, by go_num, by rw [hcs.out]; simp, (hn0.out _).1, (hn0.out _).2⟩, by simp [intOf]; omega⟩
    · obtain rfl : k = l.length := by omega
      rw [List.take_length]
      clear hE
      go_wp2
      go_ret
      exact ⟨rfl, kB⟩
end Go.Proofs.YtpoomblloahahaaGreatDoor

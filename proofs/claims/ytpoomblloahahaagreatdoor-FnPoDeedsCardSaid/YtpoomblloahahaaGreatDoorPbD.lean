/- A book's entries: the thin package's copy; the source of bytes. -/
import Derived.Test.YtpoomblloahahaaGreatDoorPbC
import Derived.Laws.CopyOwn
namespace Go.Proofs.YtpoomblloahahaaGreatDoor
open Go.ChangeShapes Go.WideShapes Go.ChangeAt Go.RowKit Go.PlainAid
set_option maxHeartbeats 1000000
set_option linter.unusedVariables false
set_option linter.unusedSimpArgs false

theorem ents_snoc (l : List En) (k : Nat) (h : k < l.length) : ents (l.take (k + 1)) = ents (l.take k) ++ encE (l.getD k e0) := by
  rw [List.take_add_one, List.getElem?_eq_getElem h, List.getD_eq_getElem?_getD, List.getElem?_eq_getElem h]
  exact ents_app _ _
set_option maxRecDepth 100000 in
theorem entries_any (v : Value) (l : List En) (W : World) (hE : EnS W v l) (hl : l.length ≤ 1000) :
    Calls Tryz.prog 13 #[v] W fun r w' => ∃ u, r = .returned u ∧ w'.ownsRow W.heap.size 30 4 u l.length (ents l) ∧ Below W.heap.size W w' := by
  obtain ⟨a, c, rfl, hE⟩ := hE
  go_enter Tryz.func13, Tryz.ntmps13
  go_wp2
  go_loopw [3, 8] (fun u i wr => ∃ k : Nat, k ≤ l.length ∧ i = .int .i64 (k : Int) ∧ wr.ownsRow W.heap.size 30 4 u k (ents (l.take k)) ∧ Below W.heap.size W wr) (fun _ i _ => l.length - (intOf i).toNat)
  case atStart => exact ⟨0, by omega, rfl, World.ownsRow_nil _ _ _ _, Below.refl _ _⟩
  case round =>
    obtain ⟨k, hk, rfl, ho, kB⟩ := hrel
    by_cases hlt : k < l.length
    · obtain ⟨g, rfl, hg, hc⟩ := hE (by omega)
      clear hE
      have hs := ents_snoc l k hlt
      have c0 := (kB.cell (show (⟨g, k * 4 + 0, none⟩ : Addr).block < W.heap.size from hg)).trans (hc k hlt 0 (by omega))
      have c1 := (kB.cell (show (⟨g, k * 4 + 1, none⟩ : Addr).block < W.heap.size from hg)).trans (hc k hlt 1 (by omega))
      have c2 := (kB.cell (show (⟨g, k * 4 + 2, none⟩ : Addr).block < W.heap.size from hg)).trans (hc k hlt 2 (by omega))
      have c3 := (kB.cell (show (⟨g, k * 4 + 3, none⟩ : Addr).block < W.heap.size from hg)).trans (hc k hlt 3 (by omega))
      generalize l.getD k e0 = x at *
      simp only [enF, Nat.add_zero] at c0 c1 c2 c3
      clear hc
      generalize hF : ents (l.take k) = F at *
      clear hF
      have hx : ∀ (v : Value) (w2 : World), w2.ownsRow W.heap.size 30 4 v (k + 1) (F ++ [.int .u64 x.1, .int .u16 x.2.1, .int .u16 x.2.2.1, .int .u32 x.2.2.2]) → w2.ownsRow W.heap.size 30 4 v (k + 1) (ents (l.take (k + 1))) := fun v w2 h => by
        rw [hs]; exact h
      replace hx := Lib.hid hx
      have hone := one_enc x
      unfold encE at hone
      have hk2 : k < 1000000000 := by omega
      have ho2 := ho.alloc (.cells #[.int .u64 x.1, .int .u16 x.2.1, .int .u16 x.2.2.1, .int .u32 x.2.2.2] 69)
      have kB2 := kB.alloc kB.size (.cells #[.int .u64 x.1, .int .u16 x.2.1, .int .u16 x.2.2.1, .int .u32 x.2.2.2] 69)
      have hgs : wr.heap.size + 1 = (wr.alloc (.cells #[.int .u64 x.1, .int .u16 x.2.1, .int .u16 x.2.2.1, .int .u32 x.2.2.2] 69)).heap.size := by simp
      replace hgs := Lib.hid hgs
      replace hs := Lib.hid hs
      clear ho kB
      go_wp2_with (at_builtin; refine wpList_app rfl _ _ 24 rfl W.heap.size 30 (.agg #[.int .u64 0, .int .u16 0, .int .u16 0, .int .u32 0]) 4 16 Tryz.underlying24 infoEn rfl (by decide) _ k F rfl ho2 kB2 (Nat.le_refl _) [.int .u64 x.1, .int .u16 x.2.1, .int .u16 x.2.2.1, .int .u32 x.2.2.2] hone rfl (wr.heap.size + 1) hgs.out rfl hk2 (by decide) ?_; intro v' w2 hown2 hb2 hnil; have hown3 := Lib.hid (hx.out _ _ hown2); clear hown2 hnil ho2 kB2 hx hone)
      exact ⟨⟨k + 1, by omega, by go_num, hown3.out, hb2⟩, by simp [intOf]; omega⟩
    · obtain rfl : k = l.length := by omega
      rw [List.take_length] at ho
      clear hE
      replace ho := Lib.hid ho
      go_wp2
      go_ret
      exact ⟨_, rfl, ho.out, kB⟩
/-- The source's block: the bytes, and how many are read. -/
def srcF (v : Value) (i : Int) : Nat → Value
  | 0 => v
  | _ => .int .i64 i
theorem newSource_any (a : Option Addr) (n c : Nat) (W : World) :
    Calls Tryz.prog 16 #[.slice a n c] W fun r w' => r = .returned (.pointer (some ⟨W.heap.size, 0, none⟩)) ∧ w'.rowIs W.heap.size 80 2 (srcF (.slice a n c) 0) ∧ Below W.heap.size W w' := by
  have k0 := (row_lit W #[.slice a n c, .int .i64 0] 80).congr (g := srcF (.slice a n c) 0) (fun j hj => by (have hj : j < 2 := hj); (have : j = 0 ∨ j = 1 := (by omega)); rcases this with rfl | rfl <;> rfl)
  have kB : Below W.heap.size W (W.alloc (.cells #[.slice a n c, .int .i64 0] 80)) := (Below.refl _ _).alloc (Nat.le_refl _) _
  go_enter Tryz.func16, Tryz.ntmps16
  go_wp2
  go_ret
  exact ⟨rfl, k0, kB⟩
theorem size_any (s : Nat) (a : Option Addr) (n c : Nat) (i : Int) (W : World) (hs : W.rowIs s 80 2 (srcF (.slice a n c) i)) (hn : n ≤ 1000) :
    Calls Tryz.prog 121 #[.pointer (some ⟨s, 0, none⟩)] W fun r w' => r = .returned (.tuple #[.int .i64 (n : Int), .nilIface]) ∧ W = w' := by
  have c0 : W.cell? ⟨s, 0, none⟩ = some (.slice a n c) := hs.cell (i := 0) (by omega)
  go_enter Tryz.func121, Tryz.ntmps121
  go_wp2
  go_ret2
  exact ⟨rfl, rfl⟩
/-- The cell of io.EOF: an error. -/
def TabEof (W : World) : Prop := 0 < W.heap.size ∧ ∃ t ad, W.cell? ⟨0, 0, none⟩ = some (.iface t (.pointer (some ad)))
theorem read_end (s : Nat) (a : Option Addr) (n c g2 c2 : Nat) (W : World) (er : Value) (he : W.cell? ⟨0, 0, none⟩ = some er) (hs : W.rowIs s 80 2 (srcF (.slice a n c) (n : Int))) (hn : n ≤ 1000) :
    Calls Tryz.prog 120 #[.pointer (some ⟨s, 0, none⟩), .slice (some ⟨g2, 0, none⟩) 16 c2] W fun r w' => r = .returned (.tuple #[.int .i64 0, er]) ∧ Below W.heap.size W w' := by
  have c0 : W.cell? ⟨s, 0, none⟩ = some (.slice a n c) := hs.cell (i := 0) (by omega)
  have c1 : W.cell? ⟨s, 1, none⟩ = some (.int .i64 (n : Int)) := hs.cell (i := 1) (by omega)
  go_enter Tryz.func120, Tryz.ntmps120
  go_wp2_with (fail)
  go_quiet (fail)
  go_wp2_with (fail)
  go_quiet (fail)
  go_wp2_with (fail)
  go_ret2
  exact ⟨rfl, rfl, rfl, rfl, Nat.le_refl _, fun _ _ => rfl⟩
end Go.Proofs.YtpoomblloahahaaGreatDoor

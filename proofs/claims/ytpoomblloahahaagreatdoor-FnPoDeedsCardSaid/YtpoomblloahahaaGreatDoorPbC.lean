/- A book's entries: the law's comparison, its choice by a key; the thin package's entries. -/
import Derived.Test.YtpoomblloahahaaGreatDoorPbB
import Derived.Deep.RegionHeld3
namespace Go.Proofs.YtpoomblloahahaaGreatDoor
open Go.ChangeShapes Go.WideShapes Go.ChangeAt Go.RowKit Go.PlainAid
set_option maxHeartbeats 1000000
set_option linter.unusedVariables false
set_option linter.unusedSimpArgs false

theorem perm_count {a b : List En} (h : a.Perm b) (x : En) : a.count x = b.count x := h.count_eq x
set_option maxRecDepth 100000 in
theorem poSame_any (va vb : Value) (a b : List En) (W : World) (hA : EnS W va a) (hB : EnS W vb b) (hp : a.Perm b) (hl : a.length ≤ 1000) :
    Calls Tryz.prog 6 #[va, vb] W fun r w' => r = .returned (.bool true) ∧ Below W.heap.size W w' := by
  have hlen := hp.length_eq
  have cA := Lib.hid (fun (w : World) (e : En) (h : Below W.heap.size W w) => poCount_any va a e w (hA.below h) hl)
  have cB := Lib.hid (fun (w : World) (e : En) (h : Below W.heap.size W w) => poCount_any vb b e w (hB.below h) (by omega))
  obtain ⟨aa, ca, rfl, hA⟩ := hA
  obtain ⟨ab, cb, rfl, hB⟩ := hB
  have hpc := Lib.hid (perm_count hp)
  clear hp
  by_cases h0 : 0 < a.length
  · obtain ⟨ga, rfl, hga, hca⟩ := hA h0
    obtain ⟨gb, rfl, hgb, hcb⟩ := hB (by omega)
    clear hA hB hcb
    have hne : ((a.length : Int) != (b.length : Int)) = false := by simp; omega
    replace hlen := Lib.hid hlen
    go_enter Tryz.func6, Tryz.ntmps6
    go_wp2
    go_loopw [5] (fun i wr => ∃ k : Nat, k ≤ a.length ∧ i = .int .i64 (k : Int) ∧ Below W.heap.size W wr) (fun i _ => a.length - (intOf i).toNat)
    case atStart => exact ⟨0, by omega, rfl, Below.refl _ _⟩
    case round =>
      obtain ⟨k, hk, rfl, kB⟩ := hrel
      by_cases hlt : k < a.length
      · have c0 := (kB.cell (show (⟨ga, k * 4 + 0, none⟩ : Addr).block < W.heap.size from hga)).trans (hca k hlt 0 (by omega))
        have c1 := (kB.cell (show (⟨ga, k * 4 + 1, none⟩ : Addr).block < W.heap.size from hga)).trans (hca k hlt 1 (by omega))
        have c2 := (kB.cell (show (⟨ga, k * 4 + 2, none⟩ : Addr).block < W.heap.size from hga)).trans (hca k hlt 2 (by omega))
        have c3 := (kB.cell (show (⟨ga, k * 4 + 3, none⟩ : Addr).block < W.heap.size from hga)).trans (hca k hlt 3 (by omega))
        generalize a.getD k e0 = x at *
        simp only [enF, Nat.add_zero] at c0 c1 c2 c3
        have hcx : a.count x = b.count x := hpc.out x
        have hne2 : (((a.count x : Nat) : Int) != ((b.count x : Nat) : Int)) = false := by rw [hcx]; simp
        clear hcx
        have kBd : Below W.heap.size W wr.drew := kB.trans ⟨rfl, rfl, rfl, Nat.le_refl _, fun _ _ => rfl⟩
        have hgl : ga < wr.heap.size := Nat.lt_of_lt_of_le hga kB.size
        clear hca hlen
        unfold enV at cA cB
        go_upto_region 6 with (fail)
        go_cut [29] from 11 to 28 (fun v wx => v = .bool false ∧ Below W.heap.size W wx)
        case first =>
          go_region_held3 (fun v => Below W.heap.size W v ∧ v.cell? ⟨ga, k * 4, none⟩ = some (.int .u64 x.1) ∧ v.cell? ⟨ga, k * 4 + 1, none⟩ = some (.int .u16 x.2.1) ∧ v.cell? ⟨ga, k * 4 + 2, none⟩ = some (.int .u16 x.2.2.1) ∧ v.cell? ⟨ga, k * 4 + 3, none⟩ = some (.int .u32 x.2.2.2)) (first | (refine ⟨?_, ?_, ?_, ?_, ?_⟩ <;> assumption) | go_keep)
            (first
              | (go_at_call_of 15 (ga); refine (cA.out _ x (‹Below W.heap.size W _ ∧ _›).1).mono ?_; rintro r wn ⟨rfl, hbn⟩; have h5 := ‹Below W.heap.size W _ ∧ _›; have nB := h5.1.trans (hbn.mono h5.1.size); have hgn := Nat.lt_of_lt_of_le hga h5.1.size; have n0 := (hbn.cell (p := ⟨ga, k * 4, none⟩) hgn).trans h5.2.1; have n1 := (hbn.cell (p := ⟨ga, k * 4 + 1, none⟩) hgn).trans h5.2.2.1; have n2 := (hbn.cell (p := ⟨ga, k * 4 + 2, none⟩) hgn).trans h5.2.2.2.1; have n3 := (hbn.cell (p := ⟨ga, k * 4 + 3, none⟩) hgn).trans h5.2.2.2.2; clear h5)
              | (go_at_call_of 15 (gb); refine (cB.out _ x (‹Below W.heap.size W _ ∧ _›).1).mono ?_; rintro r wn ⟨rfl, hbn⟩; have h5 := ‹Below W.heap.size W _ ∧ _›; have nB := h5.1.trans (hbn.mono h5.1.size); have hgn := Nat.lt_of_lt_of_le hga h5.1.size; have n0 := (hbn.cell (p := ⟨ga, k * 4, none⟩) hgn).trans h5.2.1; have n1 := (hbn.cell (p := ⟨ga, k * 4 + 1, none⟩) hgn).trans h5.2.2.1; have n2 := (hbn.cell (p := ⟨ga, k * 4 + 2, none⟩) hgn).trans h5.2.2.2.1; have n3 := (hbn.cell (p := ⟨ga, k * 4 + 3, none⟩) hgn).trans h5.2.2.2.2; clear h5))
          all_goals
            have hfin := Lib.hid (‹Below W.heap.size W _ ∧ _›).1
            go_wp2_with (fail)
            go_meet
            exact ⟨rfl, hfin.out⟩
        case rest =>
          obtain ⟨rfl, hbx⟩ := hcut
          go_wp2_with (fail)
          exact ⟨⟨k + 1, by omega, by go_num, hbx⟩, by simp [intOf]; omega⟩
      · obtain rfl : k = a.length := by omega
        go_wp2
        go_ret
        exact ⟨rfl, kB⟩
  · have ea : a.length = 0 := by omega
    have eb : b.length = 0 := by omega
    clear hA hB hpc cA cB hlen
    generalize a.length = na at *
    generalize b.length = nb at *
    subst ea eb
    go_enter Tryz.func6, Tryz.ntmps6
    go_wp2
    go_loopw [5] (fun i wr => i = .int .i64 0 ∧ Below W.heap.size W wr) (fun i _ => 0)
    case atStart => exact ⟨rfl, Below.refl _ _⟩
    case round =>
      obtain ⟨rfl, kB⟩ := hrel
      go_wp2
      go_ret
      exact ⟨rfl, kB⟩
/-- The entries of a key. -/
def ofKey (l : List En) (k : Int) : List En := l.filter fun x => x.1 == k
theorem ofKey_succ (l : List En) (key : Int) (k : Nat) (h : k < l.length) : ofKey (l.take (k + 1)) key = ofKey (l.take k) key ++ if ((l.getD k e0).1 == key) = true then [l.getD k e0] else [] := by
  unfold ofKey
  rw [List.take_add_one, List.getElem?_eq_getElem h, List.getD_eq_getElem?_getD, List.getElem?_eq_getElem h, List.filter_append]
  simp [List.filter_cons]
theorem ofKey_le (l : List En) (key : Int) : (ofKey l key).length ≤ l.length := List.length_filter_le _ _
theorem one_enc (x : En) : ∀ u ∈ encE x, u.oneCell' = true := by
  intro u hu
  simp only [encE, List.mem_cons, List.not_mem_nil, or_false] at hu
  rcases hu with rfl | rfl | rfl | rfl <;> rfl
end Go.Proofs.YtpoomblloahahaaGreatDoor

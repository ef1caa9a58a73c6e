/- A book's entries: the law's comparison, its choice by a key; the thin package's entries. -/
import Derived.Test.YtpoomblloahahaaDoorPbB
import Derived.Deep.RegionHeld3
namespace Go.Proofs.YtpoomblloahahaaDoor
open Go.ChangeShapes Go.WideShapes Go.ChangeAt Go.RowKit Go.PlainAid
set_option maxHeartbeats 1000000
set_option linter.unusedVariables false
set_option linter.unusedSimpArgs false

theorem perm_count {a b : List En} (h : a.Perm b) (x : En) : a.count x = b.count x := h.count_eq x
set_option maxRecDepth 100000 in
theorem poSame_any (va vb : Value) (a b : List En) (W : World) (hA : EnS W va a) (hB : EnS W vb b) (hp : a.Perm b) (hl : a.length ≤ 1000) :
    Calls Tryd.prog 8 #[va, vb] W fun r w' => r = .returned (.bool true) ∧ Below W.heap.size W w' := by
  have hlen := hp.length_eq
  have cA := Lib.hid (fun (w : World) (e : En) (h : Below W.heap.size W w) => poCount_any va a e w (hA.below h) hl)
  have cB := Lib.hid (fun (w : World) (e : En) (h : Below W.heap.size W w) => poCount_any vb b e w (hB.below h) (by omega))
  obtain ⟨aa, ca, rfl, hA⟩ := hA
  obtain ⟨ab, cb, rfl, hB⟩ := hB
  have hpc := Lib.hid (perm_count hp)
  clear hp
  by_cases h0 : 0 < a.length
  · obtain ⟨ga, rfl, hga, hca⟩ := hA h0
    obtain ⟨gb, rfl, hgb, hcb⟩ := hB (by omega)
    clear hA hB hcb
    have hne : ((a.length : Int) != (b.length : Int)) = false := by simp; omega
    replace hlen := Lib.hid hlen
    go_enter Tryd.func8, Tryd.ntmps8
    go_wp2
    go_loopw [5] (fun i wr => ∃ k : Nat, k ≤ a.length ∧ i = .int .i64 (k : Int) ∧ Below W.heap.size W wr) (fun i _ => a.length - (intOf i).toNat)
    case atStart => exact ⟨0, by omega, rfl, Below.refl _ _⟩
    case round =>
      obtain ⟨k, hk, rfl, kB⟩ := hrel
      by_cases hlt : k < a.length
      · have c0 := (kB.cell (show (⟨ga, k * 4 + 0, none⟩ : Addr).block < W.heap.size from hga)).trans (hca k hlt 0 (by omega))
        have c1 := (kB.cell (show (⟨ga, k * 4 + 1, none⟩ : Addr).block < W.heap.size from hga)).trans (hca k hlt 1 (by omega))
        have c2 := (kB.cell (show (⟨ga, k * 4 + 2, none⟩ : Addr).block < W.heap.size from hga)).trans (hca k hlt 2 (by omega))
        have c3 := (kB.cell (show (⟨ga, k * 4 + 3, none⟩ : Addr).block < W.heap.size from hga)).trans (hca k hlt 3 (by omega))
        generalize a.getD k e0 = x at *
        simp only [enF, Nat.add_zero] at c0 c1 c2 c3
        have hcx : a.count x = b.count x := hpc.out x
        have hne2 : (((a.count x : Nat) : Int) != ((b.count x : Nat) : Int)) = false := by rw [hcx]; simp
        clear hcx
        have kBd : Below W.heap.size W wr.drew := kB.trans ⟨rfl, rfl, rfl, Nat.le_refl _, fun _ _ => rfl⟩
        have hgl : ga < wr.heap.size := Nat.lt_of_lt_of_le hga kB.size
        clear hca hlen
        unfold enV at cA cB
        go_upto_region 6 with (fail)
        go_cut [29] from 11 to 28 (fun v wx => v = .bool false ∧ Below W.heap.size W wx)
        case first =>
          go_region_held3 (fun v => Below W.heap.size W v ∧ v.cell? ⟨ga, k * 4, none⟩ = some (.int .u64 x.1) ∧ v.cell? ⟨ga, k * 4 + 1, none⟩ = some (.int .u16 x.2.1) ∧ v.cell? ⟨ga, k * 4 + 2, none⟩ = some (.int .u16 x.2.2.1) ∧ v.cell? ⟨ga, k * 4 + 3, none⟩ = some (.int .u32 x.2.2.2)) (first | (refine ⟨?_, ?_, ?_, ?_, ?_⟩ <;> assumption) | go_keep)
            (first
              | (go_at_call_of 16 (ga); refine (cA.out _ x (‹Below W.heap.size W _ ∧ _›).1).mono ?_; rintro r wn ⟨rfl, hbn⟩; have h5 := ‹Below W.heap.size W _ ∧ _›; have nB := h5.1.trans (hbn.mono h5.1.size); have hgn := Nat.lt_of_lt_of_le hga h5.1.size; have n0 := (hbn.cell (p := ⟨ga, k * 4, none⟩) hgn).trans h5.2.1; have n1 := (hbn.cell (p := ⟨ga, k * 4 + 1, none⟩) hgn).trans h5.2.2.1; have n2 := (hbn.cell (p := ⟨ga, k * 4 + 2, none⟩) hgn).trans h5.2.2.2.1; have n3 := (hbn.cell (p := ⟨ga, k * 4 + 3, none⟩) hgn).trans h5.2.2.2.2; clear h5)
              | (go_at_call_of 16 (gb); refine (cB.out _ x (‹Below W.heap.size W _ ∧ _›).1).mono ?_; rintro r wn ⟨rfl, hbn⟩; have h5 := ‹Below W.heap.size W _ ∧ _›; have nB := h5.1.trans (hbn.mono h5.1.size); have hgn := Nat.lt_of_lt_of_le hga h5.1.size; have n0 := (hbn.cell (p := ⟨ga, k * 4, none⟩) hgn).trans h5.2.1; have n1 := (hbn.cell (p := ⟨ga, k * 4 + 1, none⟩) hgn).trans h5.2.2.1; have n2 := (hbn.cell (p := ⟨ga, k * 4 + 2, none⟩) hgn).trans h5.2.2.2.1; have n3 := (hbn.cell (p := ⟨ga, k * 4 + 3, none⟩) hgn).trans h5.2.2.2.2; clear h5))
          all_goals
            have hfin := Lib.hid (‹Below W.heap.size W _ ∧ _›).1
            go_wp2_with (fail)
            go_meet
            exact ⟨rfl, hfin.out⟩
        case rest =>
          obtain ⟨rfl, hbx⟩ := hcut
          go_wp2_with (fail)
          exact ⟨⟨k + 1, by omega, by go_num, hbx⟩, by simp [intOf]; omega⟩
      · obtain rfl : k = a.length := by omega
        go_wp2
        go_ret
        exact ⟨rfl, kB⟩
  · have ea : a.length = 0 := by omega
    have eb : b.length = 0 := by omega
    clear hA hB hpc cA cB hlen
    generalize a.length = na at *
    generalize b.length = nb at *
    subst ea eb
    go_enter Tryd.func8, Tryd.ntmps8
    go_wp2
    go_loopw [5] (fun i wr => i = .int .i64 0 ∧ Below W.heap.size W wr) (fun i _ => 0)
    case atStart => exact ⟨rfl, Below.refl _ _⟩
    case round =>
      obtain ⟨rfl, kB⟩ := hrel
      go_wp2
      go_ret
      exact ⟨rfl, kB⟩
/-- The entries of a key. -/
def ofKey (l : List En) (k : Int) : List En := l.filter fun x => x.1 == k
theorem ofKey_succ (l : List En) (key : Int) (k : Nat) (h : k < l.length) : ofKey (l.take (k + 1)) key = ofKey (l.take k) key ++ if ((l.getD k e0).1 == key) = true then [l.getD k e0] else [] := by
  unfold ofKey
  rw [List.take_add_one, List.getElem?_eq_getElem h, List.getD_eq_getElem?_getD, List.getElem?_eq_getElem h, List.filter_append]
  simp [List.filter_cons]
theorem ofKey_le (l : List En) (key : Int) : (ofKey l key).length ≤ l.length := List.length_filter_le _ _
theorem one_enc (x : En) : ∀ u ∈ encE x, u.oneCell' = true := by
  intro u hu
  simp only [encE, List.mem_cons, List.not_mem_nil, or_false] at hu
  rcases hu with rfl | rfl | rfl | rfl <;> rfl
set_option maxRecDepth 100000 in
theorem poOf_any (v : Value) (l : List En) (key : Int) (W : World) (hE : EnS W v l) (hl : l.length ≤ 1000) :
    Calls Tryd.prog 9 #[v, .int .u64 key] W fun r w' => ∃ u, r = .returned u ∧ w'.ownsRow W.heap.size 33 4 u (ofKey l key).length (ents (ofKey l key)) ∧ Below W.heap.size W w' := by
  obtain ⟨a, c, rfl, hE⟩ := hE
  go_enter Tryd.func9, Tryd.ntmps9
  go_wp2
  go_loopw [5, 6] (fun u i wr => ∃ k : Nat, k ≤ l.length ∧ i = .int .i64 (k : Int) ∧ wr.ownsRow W.heap.size 33 4 u (ofKey (l.take k) key).length (ents (ofKey (l.take k) key)) ∧ Below W.heap.size W wr) (fun _ i _ => l.length - (intOf i).toNat)
  case atStart => exact ⟨0, by omega, rfl, World.ownsRow_nil _ _ _ _, Below.refl _ _⟩
  case round =>
    obtain ⟨k, hk, rfl, ho, kB⟩ := hrel
    by_cases hlt : k < l.length
    · obtain ⟨g, rfl, hg, hc⟩ := hE (by omega)
      clear hE
      have hs := ofKey_succ l key k hlt
      have hle := ofKey_le (l.take k) key
      have hle2 : (l.take k).length ≤ k := by simp; omega
      have c0 := (kB.cell (show (⟨g, k * 4 + 0, none⟩ : Addr).block < W.heap.size from hg)).trans (hc k hlt 0 (by omega))
      have c1 := (kB.cell (show (⟨g, k * 4 + 1, none⟩ : Addr).block < W.heap.size from hg)).trans (hc k hlt 1 (by omega))
      have c2 := (kB.cell (show (⟨g, k * 4 + 2, none⟩ : Addr).block < W.heap.size from hg)).trans (hc k hlt 2 (by omega))
      have c3 := (kB.cell (show (⟨g, k * 4 + 3, none⟩ : Addr).block < W.heap.size from hg)).trans (hc k hlt 3 (by omega))
      generalize l.getD k e0 = x at *
      simp only [enF, Nat.add_zero] at c0 c1 c2 c3
      clear hc
      generalize hF : ofKey (l.take k) key = F at *
      clear hF
      cases hd : (x.1 == key)
      · rw [hd, if_neg (by simp), List.append_nil] at hs
        replace hs := Lib.hid hs
        replace ho := Lib.hid ho
        clear hle hle2
        go_wp2
        exact ⟨⟨k + 1, by omega, by go_num, by rw [hs.out]; exact ho.out, kB⟩, by simp [intOf]; omega⟩
      · rw [hd, if_pos rfl] at hs
        have hx : ∀ (v : Value) (w2 : World), w2.ownsRow W.heap.size 33 4 v (F.length + 1) (ents F ++ [.int .u64 x.1, .int .u16 x.2.1, .int .u16 x.2.2.1, .int .u32 x.2.2.2]) → w2.ownsRow W.heap.size 33 4 v (ofKey (l.take (k + 1)) key).length (ents (ofKey (l.take (k + 1)) key)) := fun v w2 h => by
          rw [hs, ents_app, List.length_append]; exact h
        replace hx := Lib.hid hx
        have hone := one_enc x
        unfold encE at hone
        clear hs
        have hk2 : F.length < 1000000000 := by omega
        go_wp2_with (at_builtin; refine wpList_app rfl _ _ 23 rfl W.heap.size 33 (.agg #[.int .u64 0, .int .u16 0, .int .u16 0, .int .u32 0]) 4 16 Tryd.underlying23 infoEn rfl (by decide) _ F.length (ents F) rfl ho kB (Nat.le_refl _) [.int .u64 x.1, .int .u16 x.2.1, .int .u16 x.2.2.1, .int .u32 x.2.2.2] hone rfl _ rfl rfl hk2 (by decide) ?_; intro v' w2 hown2 hb2 hnil; have hown3 := Lib.hid (hx.out _ _ hown2); clear hown2 hnil ho kB hx hone)
        exact ⟨⟨k + 1, by omega, by go_num, hown3.out, hb2⟩, by simp [intOf]; omega⟩
    · obtain rfl : k = l.length := by omega
      rw [List.take_length] at ho
      clear hE
      replace ho := Lib.hid ho
      go_wp2
      go_ret
      exact ⟨_, rfl, ho.out, kB⟩
set_option maxRecDepth 100000 in
theorem poKey_any (v : Value) (l : List En) (y : Int) (hy : 0 ≤ y ∧ y < 256) (W : World) (hE : EnS W v l) (hl : l.length ≤ 1000) :
    Calls Tryd.prog 5 #[v, .int .u8 y] W fun r w' => ∃ key, r = .returned (.int .u64 key) ∧ W = w' := by
  obtain ⟨a, c, rfl, hE⟩ := hE
  by_cases h0 : 0 < l.length
  · obtain ⟨g, rfl, hg, hc⟩ := hE h0
    clear hE
    by_cases h2 : y < 200
    · have hm : y % (l.length : Int) = ((y.toNat % l.length : Nat) : Int) := by rw [Int.natCast_emod, Int.toNat_of_nonneg hy.1]
      have hlt := Nat.mod_lt y.toNat h0
      have c0 := hc (y.toNat % l.length) hlt 0 (by omega)
      generalize y.toNat % l.length = q at *
      generalize l.getD q e0 = x at *
      simp only [enF, Nat.add_zero] at c0
      have ht : y.tmod (l.length : Int) = (q : Int) := by rw [Int.tmod_eq_emod_of_nonneg hy.1]; exact hm
      clear hc
      go_enter Tryd.func5, Tryd.ntmps5
      go_wp2
      go_ret
      first | exact ⟨_, rfl, rfl⟩ | exact ⟨⟨y, rfl⟩, rfl⟩ | exact ⟨y, rfl⟩
    · have d1 : decide (y < 200) = false := by simp; omega
      clear hc
      go_enter Tryd.func5, Tryd.ntmps5
      go_wp2
      go_ret
      first | exact ⟨_, rfl, rfl⟩ | exact ⟨⟨y, rfl⟩, rfl⟩ | exact ⟨y, rfl⟩
  · have d0 : decide (0 < (l.length : Int)) = false := decide_eq_false (by omega)
    clear hE
    go_enter Tryd.func5, Tryd.ntmps5
    go_wp2
    go_ret
    first | exact ⟨_, rfl, rfl⟩ | exact ⟨⟨y, rfl⟩, rfl⟩ | exact ⟨y, rfl⟩
end Go.Proofs.YtpoomblloahahaaDoor

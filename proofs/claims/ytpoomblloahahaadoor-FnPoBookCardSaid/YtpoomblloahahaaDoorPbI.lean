/- A slice of entries of one's own, sorted, whatever its length. -/
import Derived.Test.YtpoomblloahahaaDoorPbF
namespace Go.Proofs.YtpoomblloahahaaDoor
open Go.Proofs Go.Shelf Go.Sort Go.ChangeShapes Go.WideShapes Go.ChangeAt Go.RowKit Go.PlainAid
set_option maxHeartbeats 2000000
set_option linter.unusedVariables false
set_option linter.unusedSimpArgs false

theorem kept_below {w w' : World} {p : Nat → Prop} (h : KeptBut p w w') (hp : ∀ k, ¬ p k) : RowKit.Below w.heap.size w w' := ⟨h.1, h.2.1, h.2.2.1, h.2.2.2.1, fun k hk => h.2.2.2.2 k hk (hp k)⟩
theorem sortOwn_K (B0 E : Nat) (v : Value) (l : List En) (W0 w : World) (hown : w.ownsRow B0 51 4 v l.length (ents l)) (hE : w.rowIs E 44 1 (fun _ => v)) (hl : l.length ≤ 1000) (hb : RowKit.Below B0 W0 w) (hBw : B0 ≤ w.heap.size) :
    Calls Tryd.prog 21 #[.iface 44 v, .func (.func 27) #[] #[.pointer (some ⟨E, 0, none⟩)]] w fun e w' =>
      e = .returned (.tuple #[]) ∧ ∃ l' : List En, l'.Perm l ∧ (∀ i j : Nat, i < j → j < l'.length → ltK (l'.getD j e0) (l'.getD i e0) = false) ∧ EnS w' v l' ∧ w'.rowIs E 44 1 (fun _ => v) ∧ RowKit.Below B0 W0 w' := by
  by_cases h2 : 2 ≤ l.length
  · obtain ⟨g, cap, cur, rfl, hB, hg, hblk, hH⟩ := own_open hown (by omega)
    have hne : E ≠ g := fun e => by
      have h1 := rowIs_block hE
      rw [e, hblk] at h1
      simp at h1
    refine (sortK_any g cap E l h2 hl w hH hg (hE.cell (i := 0) (by omega)) hE.lt hne).mono ?_
    rintro e w' ⟨rfl, l', hp, hs, hc, hk⟩
    have hlen := hp.length_eq
    refine ⟨rfl, l', hp, fun i j hij hj => hs i j hij (by omega), ⟨some ⟨g, 0, none⟩, cap, by rw [hlen], fun _ => ⟨g, rfl, Nat.lt_of_lt_of_le hg hk.2.2.2.1, fun i hi j hj => hc i (by omega) j hj⟩⟩, hE.of_block (hk.2.2.2.2 E hE.lt hne), hk.below hb hBw (fun k hk => by subst hk; exact hB)⟩
  · obtain ⟨va, vn, vc, rfl⟩ : ∃ a n c, v = .slice a n c := by
      rcases hown.2 with ⟨hv, _⟩ | ⟨_, _, _, hv, _⟩ <;> exact ⟨_, _, _, hv⟩
    have hEn := ens_own hown
    have hvn : vn = l.length := by
      obtain ⟨a', c', hv, _⟩ := hEn
      injection hv
    refine (sort_tiny (.slice va vn vc) va vn vc _ _ _ (by omega) w).mono ?_
    rintro e w' ⟨rfl, hk⟩
    have hbl := kept_below hk (fun _ h => h)
    refine ⟨rfl, l, List.Perm.refl _, fun i j hij hj => by omega, hEn.below hbl, rowIs_below hE hbl hE.lt, hb.trans (hbl.mono hBw)⟩
theorem sortOwn_W (B0 E : Nat) (v : Value) (l : List En) (W0 w : World) (hown : w.ownsRow B0 51 4 v l.length (ents l)) (hE : w.rowIs E 44 1 (fun _ => v)) (hl : l.length ≤ 1000) (hb : RowKit.Below B0 W0 w) (hBw : B0 ≤ w.heap.size) :
    Calls Tryd.prog 21 #[.iface 44 v, .func (.func 22) #[] #[.pointer (some ⟨E, 0, none⟩)]] w fun e w' =>
      e = .returned (.tuple #[]) ∧ ∃ l' : List En, l'.Perm l ∧ (∀ i j : Nat, i < j → j < l'.length → ltW (l'.getD j e0) (l'.getD i e0) = false) ∧ EnS w' v l' ∧ w'.rowIs E 44 1 (fun _ => v) ∧ RowKit.Below B0 W0 w' := by
  by_cases h2 : 2 ≤ l.length
  · obtain ⟨g, cap, cur, rfl, hB, hg, hblk, hH⟩ := own_open hown (by omega)
    have hne : E ≠ g := fun e => by
      have h1 := rowIs_block hE
      rw [e, hblk] at h1
      simp at h1
    refine (sortW_any g cap E l h2 hl w hH hg (hE.cell (i := 0) (by omega)) hE.lt hne).mono ?_
    rintro e w' ⟨rfl, l', hp, hs, hc, hk⟩
    have hlen := hp.length_eq
    refine ⟨rfl, l', hp, fun i j hij hj => hs i j hij (by omega), ⟨some ⟨g, 0, none⟩, cap, by rw [hlen], fun _ => ⟨g, rfl, Nat.lt_of_lt_of_le hg hk.2.2.2.1, fun i hi j hj => hc i (by omega) j hj⟩⟩, hE.of_block (hk.2.2.2.2 E hE.lt hne), hk.below hb hBw (fun k hk => by subst hk; exact hB)⟩
  · obtain ⟨va, vn, vc, rfl⟩ : ∃ a n c, v = .slice a n c := by
      rcases hown.2 with ⟨hv, _⟩ | ⟨_, _, _, hv, _⟩ <;> exact ⟨_, _, _, hv⟩
    have hEn := ens_own hown
    have hvn : vn = l.length := by
      obtain ⟨a', c', hv, _⟩ := hEn
      injection hv
    refine (sort_tiny (.slice va vn vc) va vn vc _ _ _ (by omega) w).mono ?_
    rintro e w' ⟨rfl, hk⟩
    have hbl := kept_below hk (fun _ h => h)
    refine ⟨rfl, l, List.Perm.refl _, fun i j hij hj => by omega, hEn.below hbl, rowIs_below hE hbl hE.lt, hb.trans (hbl.mono hBw)⟩
end Go.Proofs.YtpoomblloahahaaDoor

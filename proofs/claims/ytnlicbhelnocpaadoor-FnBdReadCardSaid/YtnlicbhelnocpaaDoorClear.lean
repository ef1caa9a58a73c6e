/- Clearing maps: the contracts of clearMap at squares and at files. -/
import Derived.Test.YtnlicbhelnocpaaDoorRank
import Derived.Maps.RangeWalk
namespace Go.Proofs.YtnlicbhelnocpaaDoor
open Go.ChangeShapes Go.WideShapes Go.ChangeAt Go.RowKit Go.Maps Go.PlainAid
set_option maxHeartbeats 1000000
set_option linter.unusedVariables false
set_option linter.unusedSimpArgs false

theorem has_del_key {H : Type} {D : DataW H} {kl z : Lit} (hk : WideAt.IsKeyLit kl) : Maps.has (D.del kl) z = (Maps.has D z && !z.sameKey kl) := by
  by_cases e : z = kl
  · subst e
    rw [has_del_same, WideAt.sameKey_self hk]; simp
  · rw [has_del_other e, sameKey_ne e]; simp

set_option maxRecDepth 100000 in
theorem clearFile_any (bm n : Nat) (D : DataW Unit) (w : World) (hown : w.ownsMap Tryd.prog 133 (plainElem Tryd.prog tPc) bm n D) (hD : IsMap D) :
    Calls Tryd.prog 89 #[.map (some bm)] w fun e w' => e = .returned (.tuple #[]) ∧ (∃ D' : DataW Unit, w'.ownsMap Tryd.prog 133 (plainElem Tryd.prog tPc) bm n D' ∧ IsMap D' ∧ ∀ kl, Maps.has D' kl = false) ∧ w.grownBy w' (some bm) := by
  have hbm := hown.lt
  go_enter Tryd.func89, Tryd.ntmps89
  go_wp2_with (at_range; refine wpList_range_own _ rfl _ 134 rfl 133 tPc (int_keyed Tryd.underlying133) Tryd.underlying134 _ bm n _ rfl hown ?_; intro w0 hrg0 hg0 hs0)
  go_frame
  clear hown
  go_loopw [2] (fun _ wr => ∃ (left : Lit → Bool) (c : Nat) (D' : DataW Unit), wr.ranges Tryd.prog 133 (plainElem Tryd.prog tPc) bm w.heap.size n D' left c ∧ IsMap D' ∧ (∀ kl, Maps.has D' kl = left kl) ∧ w.grownBy wr (some bm))
    (fun _ wr => wr.rangeLeft bm w.heap.size)
  case atStart => exact ⟨_, _, D, hrg0, hD, fun _ => rfl, hg0.but _⟩
  case round =>
    clear hrg0 hg0 hs0
    obtain ⟨left, c, D', hrg, hm, hh, hgw⟩ := hrel
    replace hh := Lib.hid hh
    go_wp2_with (at_next; refine wpList_next_ranges_ii _ rfl _ rfl 133 tPc .i8 .i8 (int_keyed Tryd.underlying133) Tryd.underlying133 Tryd.underlying67 bm w.heap.size n _ _ _ rfl hrg ?_ ?_)
    · intro _ hl0
      have hend : (∃ D' : DataW Unit, wr.ownsMap Tryd.prog 133 (plainElem Tryd.prog tPc) bm n D' ∧ IsMap D' ∧ ∀ kl, Maps.has D' kl = false) := ⟨D', hrg.owns, hm, fun kl => by rw [hh.out, hl0]⟩
      replace hend := Lib.hid hend
      replace hgw := Lib.hid hgw
      clear hl0 hrg hm
      go_wp2
      go_end0
      exact ⟨rfl, hend.out, hgw.out⟩
    · intro x y w1 c1 hwx hwy hlx hat hrg1 hlt hg1 hs1 hen
      replace hlx := Lib.hid hlx
      clear hat
      go_wp2_with (at_delete; refine wpList_delete_ranges _ rfl _ _ 134 133 rfl tPc (int_keyed Tryd.underlying133) Tryd.underlying134 _ bm w.heap.size n _ _ _ rfl hrg1 _ _ rfl (keyOf_int_mk Tryd.underlying133 hwx) ?_; intro w2 c2 hrg2 hle hturn; go_frame)
      rw [strike_twice] at hrg2
      go_roundw
      case rel => exact ⟨_, c2, _, hrg2, hm.del _, fun kl => by rw [has_del_key (kl := .int .i8 x) trivial, hh.out], (hgw.andThen hg1 (fun j hj => by cases hj; exact Or.inl (Nat.le_refl _))).andThen hturn.grown (fun j hj => by cases hj; exact Or.inr rfl)⟩
      case measure => rw [hrg2.left_eq, hrg.left_eq]; omega

set_option maxRecDepth 100000 in
theorem clearSq_any (bm n : Nat) (D : DataW Unit) (w : World) (hown : w.ownsMap Tryd.prog 57 (plainElem Tryd.prog tPc) bm n D) (hD : IsMap D) :
    Calls Tryd.prog 88 #[.map (some bm)] w fun e w' => e = .returned (.tuple #[]) ∧ (∃ D' : DataW Unit, w'.ownsMap Tryd.prog 57 (plainElem Tryd.prog tPc) bm n D' ∧ IsMap D' ∧ ∀ kl, Maps.has D' kl = false) ∧ w.grownBy w' (some bm) := by
  have hbm := hown.lt
  go_enter Tryd.func88, Tryd.ntmps88
  go_wp2_with (at_range; refine wpList_range_own _ rfl _ 92 rfl 57 tPc (int_keyed Tryd.underlying57) Tryd.underlying92 _ bm n _ rfl hown ?_; intro w0 hrg0 hg0 hs0)
  go_frame
  clear hown
  go_loopw [2] (fun _ wr => ∃ (left : Lit → Bool) (c : Nat) (D' : DataW Unit), wr.ranges Tryd.prog 57 (plainElem Tryd.prog tPc) bm w.heap.size n D' left c ∧ IsMap D' ∧ (∀ kl, Maps.has D' kl = left kl) ∧ w.grownBy wr (some bm))
    (fun _ wr => wr.rangeLeft bm w.heap.size)
  case atStart => exact ⟨_, _, D, hrg0, hD, fun _ => rfl, hg0.but _⟩
  case round =>
    clear hrg0 hg0 hs0
    obtain ⟨left, c, D', hrg, hm, hh, hgw⟩ := hrel
    replace hh := Lib.hid hh
    go_wp2_with (at_next; refine wpList_next_ranges_ii _ rfl _ rfl 57 tPc .i8 .i8 (int_keyed Tryd.underlying57) Tryd.underlying57 Tryd.underlying67 bm w.heap.size n _ _ _ rfl hrg ?_ ?_)
    · intro _ hl0
      have hend : (∃ D' : DataW Unit, wr.ownsMap Tryd.prog 57 (plainElem Tryd.prog tPc) bm n D' ∧ IsMap D' ∧ ∀ kl, Maps.has D' kl = false) := ⟨D', hrg.owns, hm, fun kl => by rw [hh.out, hl0]⟩
      replace hend := Lib.hid hend
      replace hgw := Lib.hid hgw
      clear hl0 hrg hm
      go_wp2
      go_end0
      exact ⟨rfl, hend.out, hgw.out⟩
    · intro x y w1 c1 hwx hwy hlx hat hrg1 hlt hg1 hs1 hen
      replace hlx := Lib.hid hlx
      clear hat
      go_wp2_with (at_delete; refine wpList_delete_ranges _ rfl _ _ 92 57 rfl tPc (int_keyed Tryd.underlying57) Tryd.underlying92 _ bm w.heap.size n _ _ _ rfl hrg1 _ _ rfl (keyOf_int_mk Tryd.underlying57 hwx) ?_; intro w2 c2 hrg2 hle hturn; go_frame)
      rw [strike_twice] at hrg2
      go_roundw
      case rel => exact ⟨_, c2, _, hrg2, hm.del _, fun kl => by rw [has_del_key (kl := .int .i8 x) trivial, hh.out], (hgw.andThen hg1 (fun j hj => by cases hj; exact Or.inl (Nat.le_refl _))).andThen hturn.grown (fun j hj => by cases hj; exact Or.inr rfl)⟩
      case measure => rw [hrg2.left_eq, hrg.left_eq]; omega
end Go.Proofs.YtnlicbhelnocpaaDoor

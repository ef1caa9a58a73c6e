/- The map of a board's pieces: what it reads as, key by key; the contract of SquareMap. -/
import Derived.Test.YtnlicbhelnocpaaDoorEqArr
import Derived.Maps.RangeWalk
namespace Go.Proofs.YtnlicbhelnocpaaDoor
open Go.ChangeShapes Go.WideShapes Go.ChangeAt Go.RowKit Go.Maps
set_option maxHeartbeats 4000000
set_option linter.unusedVariables false
set_option linter.unusedSimpArgs false

/-- A map as read holds just the pieces of v. -/
structure PMap (D : DataW Unit) (v : Nat → Int) : Prop where
  isMap : IsMap D
  has : ∀ s, s < 64 → Maps.has D (keySq s) = (v s != 0)
  at_ : ∀ s, s < 64 → v s ≠ 0 → ∀ z, D.atKey (keySq s) z = .lit (.int .i8 (v s))
  key : ∀ kl, Maps.has D kl = true → ∃ s, s < 64 ∧ kl = keySq s
theorem keySq_inj {i j : Nat} (h : keySq i = keySq j) : i = j := by
  simp only [keySq, Lit.int.injEq, true_and] at h; omega
theorem PMap.empty : PMap (.map []) (fun _ => 0) := ⟨isMap_empty, fun _ _ => rfl, fun _ _ h => absurd rfl h, fun _ h => by cases h⟩
theorem PMap.congr {D : DataW Unit} {v u : Nat → Int} (h : PMap D v) (e : ∀ s, s < 64 → v s = u s) : PMap D u :=
  ⟨h.isMap, fun s hs => by rw [h.has s hs, e s hs], fun s hs hn z => by rw [← e s hs] at hn ⊢; exact h.at_ s hs hn z, h.key⟩
theorem PMap.put {D : DataW Unit} {v : Nat → Int} (h : PMap D v) (k : Nat) (hk : k < 64) (p : Int) (hp : p ≠ 0) : PMap (D.put (keySq k) (.lit (.int .i8 p))) (fun j => if j = k then p else v j) := by
  have hl : WideAt.IsKeyLit (keySq k) := trivial
  refine ⟨h.isMap.put _ _, fun s hs => ?_, fun s hs hn z => ?_, fun kl hkl => ?_⟩
  · by_cases e : s = k
    · subst e; rw [has_put_same h.isMap hl]; simp [hp]
    · rw [has_put_other (fun x => e (keySq_inj x)), h.has s hs]; simp [e]
  · by_cases e : s = k
    · subst e; rw [atKey_put_same h.isMap hl]; simp
    · simp only [e, if_false] at hn ⊢
      rw [atKey_put_other (fun x => e (keySq_inj x))]
      exact h.at_ s hs hn z
  · by_cases e : kl = keySq k
    · exact ⟨k, hk, e⟩
    · rw [has_put_other e] at hkl
      exact h.key kl hkl

theorem ownsMap_size {P : Program} {w : World} {k : TypeId} {R : Value → Option (DataW Unit × List MemPlace)} {b n : Nat} {D : DataW Unit} (h : w.ownsMap P k R b n D) : Maps.size D ≤ n := by
  obtain ⟨es, clock, _, _, hle, rfl⟩ := h
  show ((es.toList.map _).foldr DataW.insert []).length ≤ n
  rw [length_sorted]
  simpa using hle

def SqMapPost (v : Nat → Int) (w : World) (e : Ending) (w' : World) : Prop :=
  ∃ n D, e = .returned (.map (some w.heap.size)) ∧ w'.ownsMap Tryd.prog tSq (plainElem Tryd.prog tPc) w.heap.size n D ∧ n ≤ 64 ∧ PMap D v ∧ Below w.heap.size w w'
set_option maxRecDepth 100000 in
theorem squareMap_any (g : Nat) (f : Nat → Value) (v : Nat → Int) (hv : ∀ i, i < 64 → 0 ≤ v i ∧ v i ≤ 12) (w : World) (h : w.rowIs g tBoard 17 f) (hf : ∀ j, j < 12 → f j = .int .u64 (tn (bbsOf v j))) (hT : TabsP w) :
    Calls Tryd.prog 82 #[.pointer (some ⟨g, 0, none⟩)] w fun e w' => SqMapPost v w e w' := by
  have hmm := @run_makeMap Tryd.prog
  have hg := h.lt
  have hB : Below w.heap.size w (w.alloc (.map #[] 0)) := (Below.refl _ _).alloc (Nat.le_refl _) _
  have hm0 : (w.alloc (.map #[] 0)).ownsMap Tryd.prog tSq (plainElem Tryd.prog tPc) w.heap.size 0 (.map [] : DataW Unit) := World.ownsMap_made _ _ _ _
  go_enter Tryd.func82, Tryd.ntmps82
  go_wp2
  go_loopw [7] (fun i wr => ∃ k n D, k ≤ 64 ∧ n ≤ k ∧ i = .int .i64 (k : Nat) ∧ wr.ownsMap Tryd.prog tSq (plainElem Tryd.prog tPc) w.heap.size n D ∧ PMap D (bdStep v k) ∧ Below w.heap.size w wr) (fun i _ => 64 - (intOf i).toNat)
  case atStart => exact ⟨0, 0, _, by omega, by omega, rfl, hm0, PMap.empty.congr fun s _ => by simp [bdStep], hB⟩
  case round =>
    clear hm0 hB
    obtain ⟨k, n, D, hk, hn, rfl, hown, hD, hb⟩ := hrel
    by_cases hlt : k < 64
    · have hvk := hv k hlt
      have e1 : IntKind.i8.wrap (k : Int) = (k : Int) := IntWalk.i8_in _ (by omega)
      have hcall := piece_any g f (bbsOf v) wr (rowIs_below h hb hg) hf (hT.below hb) (k : Int) (by omega) (by omega)
      rw [Int.toNat_natCast, pieceAt_of v k hlt hvk.1 hvk.2] at hcall
      have hcall := Lib.hid hcall
      by_cases hp : v k = 0
      · have hD' := hD.congr (u := bdStep v (k + 1)) fun s _ => by unfold bdStep; by_cases e : s = k; (subst e; simp [hp]); (have : (s < k + 1) = (s < k) := (by simp only [eq_iff_iff]; omega); simp [this])
        have hne : (v k != 0) = false := by simp [hp]
        clear h hf hT hv hp hD
        go_wp2_with (go_at_call 60; refine hcall.out.mono ?_; rintro e w' ⟨rfl, rfl⟩)
        exact ⟨⟨k + 1, n, D, by omega, by omega, by go_num, hown, hD', hb⟩, by simp [intOf]; omega⟩
      · have hD' := (hD.put k hlt (v k) hp).congr (u := bdStep v (k + 1)) fun s _ => by unfold bdStep; by_cases e : s = k; (subst e; simp); (have : (s < k + 1) = (s < k) := (by simp only [eq_iff_iff]; omega); simp [this, e])
        have hne : (v k != 0) = true := by simp [hp]
        have hwf := Lib.hid (wf_i8 (n := v k) (by omega) (by omega))
        have hwk := Lib.hid (wf_i8 (n := (k : Int)) (by omega) (by omega))
        clear h hf hT hv hp hD
        go_wp2_with (first
          | (go_at_call 60; refine hcall.out.mono ?_; rintro e w' ⟨rfl, rfl⟩)
          | (at_mapUpdate; refine wpList_mapUpdate_own _ rfl _ _ _ tMap rfl tSq tPc (int_keyed Tryd.underlying57) Tryd.underlying92 _ w.heap.size n _ rfl hown (by unfold maxLen; omega) _ _ _ rfl rfl (keyOf_int_mk Tryd.underlying57 hwk.out) _ [] (plainElem_int Tryd.underlying67 hwf.out) ?_; intro w1 hown1 hgrow1))
        exact ⟨⟨k + 1, n + 1, _, by omega, by omega, by go_num, hown1, hD', hb.grown hgrow1 hb.size (by intro r hr; cases hr; exact Nat.le_refl _)⟩, by simp [intOf]; omega⟩
    · obtain rfl : k = 64 := by omega
      have hD' := hD.congr (u := v) fun s hs => by unfold bdStep; rw [if_pos hs]
      clear h hf hT hv hD
      go_wp2
      go_ret
      exact ⟨n, D, rfl, hown, hn, hD', hb⟩
end Go.Proofs.YtnlicbhelnocpaaDoor

/- Ranks of a board's text: what is read out of one, by the program and by the reference. -/
import Derived.Test.YtnlicbhelnocpaaDoorSqMap
import Derived.Test.YtnlicbhelnocpaaDoorKeep
import Derived.PlainAid
import Derived.WideShapes4
namespace Go.Proofs.YtnlicbhelnocpaaDoor
open Go.ChangeShapes Go.WideShapes Go.ChangeAt Go.RowKit Go.Maps Go.PlainAid
set_option maxHeartbeats 1000000
set_option linter.unusedVariables false
set_option linter.unusedSimpArgs false

/-- The kind of a letter, 0 of others. -/
def kindB (c : Int) : Int := if c = 75 then 1 else if c = 81 then 2 else if c = 82 then 3 else if c = 66 then 4 else if c = 78 then 5 else if c = 80 then 6 else if c = 107 then 7 else if c = 113 then 8 else if c = 114 then 9 else if c = 98 then 10 else if c = 110 then 11 else if c = 112 then 12 else 0
theorem kindB_range (c : Int) : 0 ≤ kindB c ∧ kindB c ≤ 12 := by unfold kindB; split <;> (try omega) <;> (repeat (split <;> try omega))
structure TabsF (w : World) : Prop where
  tab : ∀ i, i < 128 → w.cell? ⟨6, i, none⟩ = some (.int .i8 (kindB (i : Nat)))
theorem TabsF.below {w w' : World} (h : TabsF w) (hb : Below w.heap.size w w') : TabsF w' := ⟨fun i hi => cell_below hb (h.tab i hi)⟩

/-- What is known behind k bytes: that no byte was bad, how many squares there were, and what stands on them. -/
def okB (b : Nat → Int) : Nat → Bool
  | 0 => true
  | k + 1 => okB b k && (decide (49 ≤ b k ∧ b k ≤ 56) || kindB (b k) != 0)
def numB (b : Nat → Int) : Nat → Nat
  | 0 => 0
  | k + 1 => numB b k + if 49 ≤ b k ∧ b k ≤ 56 then (b k - 48).toNat else 1
def rowB (b : Nat → Int) : Nat → Nat → Int
  | 0 => fun _ => 0
  | k + 1 => fun j => if ¬ (49 ≤ b k ∧ b k ≤ 56) ∧ j = numB b k then kindB (b k) else rowB b k j
theorem okB_mono {b : Nat → Int} {k : Nat} (h : okB b k = false) : ∀ m, k ≤ m → okB b m = false
  | 0, hm => by
    obtain rfl : k = 0 := by omega
    exact h
  | m + 1, hm => by
    by_cases e : k = m + 1
    · subst e; exact h
    · have : okB b (m + 1) = (okB b m && (decide (49 ≤ b m ∧ b m ≤ 56) || kindB (b m) != 0)) := rfl
      rw [this, okB_mono h m (by omega)]; rfl
theorem numB_succ (b : Nat → Int) (k : Nat) : numB b (k + 1) = numB b k + if 49 ≤ b k ∧ b k ≤ 56 then (b k - 48).toNat else 1 := rfl
theorem numB_mono (b : Nat → Int) {k : Nat} : ∀ m, k ≤ m → numB b k ≤ numB b m
  | 0, hm => by
    obtain rfl : k = 0 := by omega
    exact Nat.le_refl _
  | m + 1, hm => by
    by_cases e : k = m + 1
    · subst e; exact Nat.le_refl _
    · have := numB_mono b (k := k) m (by omega)
      rw [numB_succ]; omega
theorem numB_le (b : Nat → Int) : ∀ k, numB b k ≤ 8 * k
  | 0 => Nat.le_refl _
  | k + 1 => by rw [numB_succ]; have := numB_le b k; split <;> omega
/-- A rank's text is right, and what it tells. -/
def rOk (T : ByteArray) : Bool := okB (bt T) T.size && numB (bt T) T.size == 8
def rRow (T : ByteArray) (j : Nat) : Int := rowB (bt T) T.size j

/-! A map from files to pieces, key by key, as far as eight files go. -/
abbrev tFile : TypeId := 133
abbrev tFMap : TypeId := 134
structure FMap (D : DataW Unit) (v : Nat → Int) : Prop where
  isMap : IsMap D
  has : ∀ s, s < 8 → Maps.has D (keySq s) = (v s != 0)
  at_ : ∀ s, s < 8 → v s ≠ 0 → ∀ z, D.atKey (keySq s) z = .lit (.int .i8 (v s))
  key : ∀ kl, Maps.has D kl = true → ∃ s, s < 8 ∧ kl = keySq s
theorem FMap.empty {D : DataW Unit} (h : IsMap D) (he : ∀ kl, Maps.has D kl = false) : FMap D (fun _ => 0) :=
  ⟨h, fun s _ => by rw [he]; rfl, fun _ _ h => absurd rfl h, fun kl h => by rw [he] at h; cases h⟩
theorem FMap.congr {D : DataW Unit} {v u : Nat → Int} (h : FMap D v) (e : ∀ s, s < 8 → v s = u s) : FMap D u :=
  ⟨h.isMap, fun s hs => by rw [h.has s hs, e s hs], fun s hs hn z => by rw [← e s hs] at hn ⊢; exact h.at_ s hs hn z, h.key⟩
theorem FMap.put {D : DataW Unit} {v : Nat → Int} (h : FMap D v) (k : Nat) (hk : k < 8) (p : Int) (hp : p ≠ 0) : FMap (D.put (keySq k) (.lit (.int .i8 p))) (fun j => if j = k then p else v j) := by
  have hl : WideAt.IsKeyLit (keySq k) := trivial
  refine ⟨h.isMap.put _ _, fun s hs => ?_, fun s hs hn z => ?_, fun kl hkl => ?_⟩
  · by_cases e : s = k
    · subst e; rw [has_put_same h.isMap hl]; simp [hp]
    · rw [has_put_other (fun x => e (keySq_inj x)), h.has s hs]; simp [e]
  · by_cases e : s = k
    · subst e; rw [atKey_put_same h.isMap hl]; simp
    · simp only [e, if_false] at hn ⊢
      rw [atKey_put_other (fun x => e (keySq_inj x))]
      exact h.at_ s hs hn z
  · by_cases e : kl = keySq k
    · exact ⟨k, hk, e⟩
    · rw [has_put_other e] at hkl
      exact h.key kl hkl

/-- The map's block has been turned, and blocks were laid; nothing else. -/
def RankPost (T : ByteArray) (bm n0 : Nat) (w : World) (e : Ending) (w' : World) : Prop :=
  w.grownBy w' (some bm) ∧ ∃ n D, w'.ownsMap Tryd.prog tFile (plainElem Tryd.prog tPc) bm n D ∧ n ≤ n0 + T.size ∧
    ((rOk T = true ∧ e = .returned .nilIface ∧ FMap D (rRow T)) ∨ (rOk T = false ∧ ∃ g, e = .returned (.iface 111 (.pointer (some ⟨g, 0, none⟩)))))
theorem wrap_i8_wf (n : Int) : (Lit.int .i8 (IntKind.i8.wrap n)).wf = true := Go.WideShapes.wf_wrap .i8 n
set_option maxRecDepth 100000 in
theorem fenFormRank_any (T : ByteArray) (hT : T.size ≤ 1000) (h128 : ∀ i, i < T.size → bt T i < 128) (bm n0 : Nat) (hn0 : n0 ≤ 100000) (D0 : DataW Unit) (w : World) (hown : w.ownsMap Tryd.prog tFile (plainElem Tryd.prog tPc) bm n0 D0) (hD0 : FMap D0 fun _ => 0) (hF : TabsF w) (hg6 : 6 ≠ bm) :
    Calls Tryd.prog 90 #[.string T, .map (some bm)] w fun e w' => RankPost T bm n0 w e w' := by
  have hget := get_bt T
  have hbm := hown.lt
  have hsz : T.size ≤ 9223372036854775807 := by omega
  replace h128 := Lib.hid h128
  replace hF := Lib.hid hF.tab
  have hnn := fun k => bt_nonneg T k
  replace hnn := Lib.hid hnn
  go_enter Tryd.func90, Tryd.ntmps90
  go_wp2
  go_loopw [5, 11] (fun c i wr => ∃ (k n : Nat) (D : DataW Unit), k ≤ T.size ∧ i = .int .i64 k ∧ c = .int .i64 (numB (bt T) k : Nat) ∧ okB (bt T) k = true ∧ wr.ownsMap Tryd.prog tFile (plainElem Tryd.prog tPc) bm n D ∧ n ≤ n0 + k ∧ (numB (bt T) k ≤ 8 → FMap D (rowB (bt T) k)) ∧ w.grownBy wr (some bm)) (fun _ i _ => T.size - (intOf i).toNat)
  case atStart => exact ⟨0, n0, D0, by omega, rfl, rfl, rfl, hown, by omega, fun _ => hD0, World.grownBy.refl _ _⟩
  case round =>
    clear hown hD0
    obtain ⟨k, n, D, hk, rfl, rfl, hok, hown, hn, hD, hgw⟩ := hrel
    replace hok := Lib.hid hok
    replace hD := Lib.hid hD
    by_cases hlt : k < T.size
    · have h0 := hnn.out k
      have h1 := h128.out k hlt
      have hs := numB_succ (bt T) k
      have hle := numB_le (bt T) k
      have hoks : okB (bt T) (k + 1) = (okB (bt T) k && (decide (49 ≤ bt T k ∧ bt T k ≤ 56) || kindB (bt T k) != 0)) := rfl
      have hrow : rowB (bt T) (k + 1) = fun j => if ¬ (49 ≤ bt T k ∧ bt T k ≤ 56) ∧ j = numB (bt T) k then kindB (bt T k) else rowB (bt T) k j := rfl
      have hmono := Lib.hid fun h => okB_mono (b := bt T) (k := k + 1) h T.size (by omega)
      have htab : wr.cell? ⟨6, (bt T k).toNat, none⟩ = some (.int .i8 (kindB (bt T k))) := by
        have h := hF.out (bt T k).toNat (by omega)
        rw [show (((bt T k).toNat : Nat) : Int) = bt T k by omega] at h
        exact hgw.cell h (fun e => hg6 (by injection e))
      have hgk := hget k hlt
      clear hget
      generalize bt T k = c at *
      have hkr := kindB_range c
      rw [hok.out, Bool.true_and] at hoks
      replace hgw := Lib.hid hgw
      by_cases hd : 49 ≤ c ∧ c ≤ 56
      · rw [if_pos hd] at hs
        have e1 : IntKind.u8.wrap (c - 48) = c - 48 := IntWalk.u8_in _ (by omega)
        have e2 : IntKind.i64.wrap (c - 48) = c - 48 := IntWalk.i64_in _ (by omega)
        have d1 := hd.1
        have d2 := hd.2
        have hrow' : ∀ j, rowB (bt T) (k + 1) j = rowB (bt T) k j := fun j => by rw [hrow]; simp [hd]
        have hok' : okB (bt T) (k + 1) = true := by rw [hoks]; simp [hd]
        have hc : ((numB (bt T) (k + 1) : Nat) : Int) = (numB (bt T) k : Nat) + (c - 48) := by rw [hs]; omega
        replace hrow' := Lib.hid hrow'
        replace hok' := Lib.hid hok'
        replace hc := Lib.hid hc
        replace hs := Lib.hid hs
        clear hd hrow hoks
        go_wp2
        go_roundw
        case rel => exact ⟨k + 1, n, D, by omega, by go_num, by rw [hc.out], hok'.out, hown, by omega, fun h => (hD.out (by have := hs.out; omega)).congr fun j _ => (hrow'.out j).symm, hgw.out⟩
        case measure => simp [intOf]; omega
      · rw [if_neg hd] at hs
        have hdd : c < 49 ∨ 56 < c := by omega
        by_cases hz : kindB c = 0
        · have hok' : okB (bt T) (k + 1) = false := by rw [hoks]; simp [hz]; omega
          have hr : rOk T = false := by unfold rOk; rw [hmono.out hok']; rfl
          have hz0 : (kindB c == 0) = true := by simp [hz]
          replace hr := Lib.hid hr
          clear hd hrow hoks hok' hz hs
          rcases hdd with hdd | hdd
          all_goals
            go_wp2
            go_ret
            exact ⟨hgw.out.andThen (World.grownBy_alloc _ _ none) (fun _ e => by cases e), n, D, hown.alloc _, by omega, .inr ⟨hr.out, _, rfl⟩⟩
        · have hok' : okB (bt T) (k + 1) = true := by rw [hoks]; simp [hz]
          have hrow' : ∀ j, rowB (bt T) (k + 1) j = if j = numB (bt T) k then kindB c else rowB (bt T) k j := fun j => by rw [hrow]; simp [hd]
          have hz0 : (kindB c == 0) = false := by simp [hz]
          have hc : ((numB (bt T) (k + 1) : Nat) : Int) = (numB (bt T) k : Nat) + 1 := by rw [hs]; omega
          have hwf := Lib.hid (wf_i8 (n := kindB c) (by omega) (by omega))
          by_cases h8 : numB (bt T) k < 8
          · have e8 : IntKind.i8.wrap ((numB (bt T) k : Nat) : Int) = (numB (bt T) k : Nat) := IntWalk.i8_in _ (by omega)
            have hwk := Lib.hid (wf_i8 (n := ((numB (bt T) k : Nat) : Int)) (by omega) (by omega))
            have hput := Lib.hid (((hD.out (by omega)).put (numB (bt T) k) h8 (kindB c) hz).congr fun j _ => (hrow' j).symm)
            replace hok' := Lib.hid hok'
            replace hc := Lib.hid hc
            clear hd hrow hoks hz hs hrow'
            rcases hdd with hdd | hdd
            all_goals
              go_wp2_with (at_mapUpdate; refine wpList_mapUpdate_own _ rfl _ _ _ tFMap rfl tFile tPc (int_keyed Tryd.underlying133) Tryd.underlying134 _ bm n _ rfl hown (by unfold maxLen; omega) _ _ _ rfl rfl (keyOf_int_mk Tryd.underlying133 hwk.out) _ [] (plainElem_int Tryd.underlying67 hwf.out) ?_; intro w1 hown1 hgrow1)
              go_roundw
              case rel => exact ⟨k + 1, n + 1, _, by omega, by go_num, by rw [hc.out], hok'.out, hown1, by omega, fun _ => hput.out, hgw.out.andThen hgrow1 fun _ e => .inr e⟩
              case measure => simp [intOf]; omega
          · have hwk := Lib.hid (wrap_i8_wf ((numB (bt T) k : Nat) : Int))
            have hbig := Lib.hid (show ¬ numB (bt T) (k + 1) ≤ 8 by omega)
            replace hok' := Lib.hid hok'
            replace hc := Lib.hid hc
            clear hd hrow hoks hz hs hrow'
            rcases hdd with hdd | hdd
            all_goals
              go_wp2_with (at_mapUpdate; refine wpList_mapUpdate_own _ rfl _ _ _ tFMap rfl tFile tPc (int_keyed Tryd.underlying133) Tryd.underlying134 _ bm n _ rfl hown (by unfold maxLen; omega) _ _ _ rfl rfl (keyOf_int_mk Tryd.underlying133 hwk.out) _ [] (plainElem_int Tryd.underlying67 hwf.out) ?_; intro w1 hown1 hgrow1)
              go_roundw
              case rel => exact ⟨k + 1, n + 1, _, by omega, by go_num, by rw [hc.out], hok'.out, hown1, by omega, fun h => absurd h hbig.out, hgw.out.andThen hgrow1 fun _ e => .inr e⟩
              case measure => simp [intOf]; omega
    · obtain rfl : k = T.size := by omega
      have hle := numB_le (bt T) T.size
      have hR : rOk T = (okB (bt T) T.size && numB (bt T) T.size == 8) := rfl
      have hRow : ∀ j, rRow T j = rowB (bt T) T.size j := fun _ => rfl
      rw [hok.out, Bool.true_and] at hR
      replace hRow := Lib.hid hRow
      generalize numB (bt T) T.size = m at *
      replace hgw := Lib.hid hgw
      by_cases h8 : m = 8
      · have hne : ((m : Int) != 8) = false := by simp; omega
        have hR' := Lib.hid (show rOk T = true by rw [hR, h8]; rfl)
        replace h8 := Lib.hid h8
        clear hR
        go_wp2
        go_ret
        exact ⟨hgw.out, n, D, hown, by omega, .inl ⟨hR'.out, rfl, (hD.out (by have := h8.out; omega)).congr fun j _ => (hRow.out j).symm⟩⟩
      · have hne : ((m : Int) != 8) = true := by simp; omega
        have hR' := Lib.hid (show rOk T = false by rw [hR]; simpa using h8)
        clear hR h8
        go_wp2
        go_ret
        exact ⟨hgw.out.andThen (World.grownBy_alloc _ _ none) (fun _ e => by cases e), n, D, hown.alloc _, by omega, .inr ⟨hR'.out, _, rfl⟩⟩
end Go.Proofs.YtnlicbhelnocpaaDoor

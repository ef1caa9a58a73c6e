/- A move's weight is changed in a book; all moves of a key are taken out. -/
import Derived.Test.YtpoomblloahahaaGreatDoorPdB
namespace Go.Proofs.YtpoomblloahahaaGreatDoor
open Go.Proofs Go.Shelf Go.Sort Go.Lib Go.ChangeShapes Go.WideShapes Go.ChangeAt Go.RowKit Go.PlainAid
set_option maxHeartbeats 2000000
set_option linter.unusedVariables false
set_option linter.unusedSimpArgs false

theorem getD_at (l : List En) (i : Nat) (h : i < l.length) : l.getD i e0 = l[i] := by
  rw [List.getD_eq_getElem?_getD, List.getElem?_eq_getElem h]; rfl
def hitE (key code : Int) (x : En) : Bool := x.1 == key && x.2.1 == code
def updE (key code wt : Int) (x : En) : En := if hitE key code x = true then (x.1, x.2.1, wt, x.2.2.2) else x
def updL (key code wt : Int) (l : List En) (k : Nat) : List En := (List.range l.length).map fun i => if i < k then updE key code wt (l.getD i e0) else l.getD i e0
theorem updL_len (key code wt : Int) (l : List En) (k : Nat) : (updL key code wt l k).length = l.length := by simp [updL]
theorem updL_get (key code wt : Int) (l : List En) (k i : Nat) (hi : i < l.length) : (updL key code wt l k).getD i e0 = if i < k then updE key code wt (l.getD i e0) else l.getD i e0 := by
  rw [List.getD_eq_getElem?_getD, List.getElem?_eq_getElem (by rw [updL_len]; exact hi)]
  simp [updL]
theorem updL_zero (key code wt : Int) (l : List En) : updL key code wt l 0 = l := by
  apply List.ext_getElem (updL_len _ _ _ _ _)
  intro i h1 h2
  have := updL_get key code wt l 0 i h2
  rw [getD_at _ _ h1, getD_at _ _ h2] at this
  simpa using this
theorem updL_all (key code wt : Int) (l : List En) : updL key code wt l l.length = l.map (updE key code wt) := by
  apply List.ext_getElem (by rw [updL_len]; simp)
  intro i h1 h2
  have hi : i < l.length := by simpa using h2
  have := updL_get key code wt l l.length i hi
  rw [getD_at _ _ h1, if_pos hi, getD_at _ _ hi] at this
  rw [this]; simp
theorem any_succ (key code : Int) (l : List En) (k : Nat) (hk : k < l.length) : (l.take (k + 1)).any (hitE key code) = ((l.take k).any (hitE key code) || hitE key code (l.getD k e0)) := by
  rw [List.take_add_one, List.getElem?_eq_getElem hk, List.any_append, getD_at _ _ hk]; simp only [Option.toList_some, List.any_cons, List.any_nil, Bool.or_false]
theorem keptT_setE {w0 w : World} (h : KeptT w0 w) {g : Nat} {cur : Array Value} (hg : w.heap[g]? = some (.cells cur 69 (0, 0))) (j : Nat) (v : Value) : KeptT w0 (w.setCell ⟨g, j, none⟩ v) := h.trans ⟨by simp, fun k cc T h0 h1 h2 => by
  rw [Below.heap_setCell _ _ _ _ (by show k ≠ g; intro e; rw [e, hg] at h0; injection h0 with h0; injection h0 with _ h0; exact h1 h0.symm)]; exact h0⟩
/-- The weight of entry k is stored. -/
theorem own_put {B g n cap k : Nat} {l : List En} {key code wt : Int} {cur : Array Value} {w : World} (hk : k < l.length) (hn : n = l.length) (h : w.ownsRow B 69 4 (.slice (some ⟨g, 0, none⟩) n cap) n (ents (updL key code wt l k))) (hg : w.heap[g]? = some (.cells cur 69 (0, 0))) (hit : hitE key code (l.getD k e0) = true)
    (hc : ∀ i, i < n → ∀ j, j < 4 → w.cell? ⟨g, i * 4 + j, none⟩ = some (enF ((updL key code wt l k).getD i e0) j)) :
    (w.setCell ⟨g, k * 4 + 2, none⟩ (.int .u16 wt)).ownsRow B 69 4 (.slice (some ⟨g, 0, none⟩) n cap) n (ents (updL key code wt l (k + 1))) := by
  subst hn
  have hblk : (w.setCell ⟨g, k * 4 + 2, none⟩ (.int .u16 wt)).heap[g]? = some (.cells (cur.setIfInBounds (k * 4 + 2) (.int .u16 wt)) 69 (0, 0)) := by
    simp only [World.setCell, Array.getElem?_modify, if_pos, hg]
    rfl
  have h0 := hc k hk 2 (by omega)
  refine own_cells h hg hblk (by simp) (updL_len _ _ _ _ _) (fun i hi j hj => ?_)
  rw [updL_get _ _ _ _ _ _ hi]
  have h1 := hc i hi j hj
  rw [updL_get _ _ _ _ _ _ hi] at h1
  by_cases he : i * 4 + j = k * 4 + 2
  · obtain rfl : i = k := by omega
    obtain rfl : j = 2 := by omega
    rw [if_pos (by omega), updE, if_pos hit]
    exact World.cell?_setCell_same _ _ _ h1
  · rw [World.cell?_setCell_other _ _ _ _ (by intro e; injection e with _ e; omega)]
    rw [h1]
    by_cases hik : i = k
    · subst hik
      rw [if_neg (by omega), if_pos (by omega), updE, if_pos hit]
      have : j = 0 ∨ j = 1 ∨ j = 3 := by omega
      rcases this with rfl | rfl | rfl <;> rfl
    · by_cases hlt : i < k
      · rw [if_pos hlt, if_pos (by omega)]
      · rw [if_neg hlt, if_neg (by omega)]
theorem own_same {key code wt : Int} {l : List En} {k : Nat} (hk : k < l.length) (hit : hitE key code (l.getD k e0) = false) : updL key code wt l (k + 1) = updL key code wt l k := by
  unfold updL
  apply List.map_congr_left
  intro i hi
  by_cases h : i = k
  · subst h
    rw [if_pos (by omega), if_neg (by omega), updE, if_neg (by rw [hit]; simp)]
  · by_cases h2 : i < k
    · rw [if_pos (by omega), if_pos h2]
    · rw [if_neg (by omega), if_neg h2]
set_option maxRecDepth 100000 in
theorem updMove_any (pb B0 : Nat) (l : List En) (key wt a b q : Int) (ha : 0 ≤ a ∧ a < 64) (hb : 0 ≤ b ∧ b < 64) (hq : q = 0 ∨ 2 ≤ q ∧ q ≤ 5) (hl : l.length < 1000) (w : World) (hB : Bk pb B0 l w) (hB0 : B0 ≤ pb) :
    Calls Tryz.prog 11 #[.pointer (some ⟨pb, 0, none⟩), .int .u64 key, mvV a b q, .int .u16 wt] w fun e w' => ∃ u, e = .returned u ∧ ((u = .nilIface ∧ l.any (hitE key (b + 64 * a + 4096 * polP q)) = true) ∨ ((∃ ad, u = .iface 117 (.pointer (some ad))) ∧ l.any (hitE key (b + 64 * a + 4096 * polP q)) = false)) ∧ Bk pb B0 (l.map (updE key (b + 64 * a + 4096 * polP q) wt)) w' ∧ RowKit.Below B0 w w' ∧ KeptT w w' := by
  have hto := Lib.hid (toPoly_any a b q ha hb hq)
  rw [mvV_lit] at hto
  rw [mvV_lit]
  have kB := (RowKit.Below.refl w.heap.size w).alloc (Nat.le_refl _) (.cells #[Value.pointer none, Value.pointer none, Value.string ⟨#[]⟩, Value.string ⟨#[]⟩, Value.map none, Value.slice none 0 0, Value.int .u64 0, Value.int .u16 0, Value.int .i8 a, Value.int .i8 b, Value.int .i8 q] 57)
  obtain ⟨v, hR, hO⟩ := hB
  obtain ⟨va, vn, vc, rfl⟩ : ∃ a n c, v = .slice a n c := by
    rcases hO.2 with ⟨hv, _⟩ | ⟨_, _, _, hv, _⟩ <;> exact ⟨_, _, _, hv⟩
  have hvn : vn = l.length := by
    obtain ⟨a', c', hv, _⟩ := ens_own hO
    injection hv
  subst hvn
  have hlt := hR.lt
  generalize hk : b + 64 * a + 4096 * polP q = code at *
  go_enter Tryz.func11, Tryz.ntmps11
  go_wp2_with (fail)
  refine (hto.out _).mono ?_
  rintro e w2 ⟨rfl, hb2⟩
  have kB2 := kB.trans (hb2.mono kB.size)
  have hR2 := rowIs_below hR kB2 hR.lt
  have hO2 := own_below hO kB2
  have kT2 := KeptT.of_below kB2
  have kB3 : RowKit.Below B0 w w2 := kB2.mono (by omega)
  have y0 := hR2.cell (i := 0) (by omega)
  clear hto kB hb2 hR hO kB2 ha hb hq
  go_wp2_with (fail)
  go_loopw [10, 20] (fun u i wr => ∃ k : Nat, k ≤ l.length ∧ i = .int .i64 (k : Int) ∧ u = .bool ((l.take k).any (hitE key code)) ∧ wr.rowIs pb 71 1 (fun _ => .slice va l.length vc) ∧ wr.ownsRow B0 69 4 (.slice va l.length vc) l.length (ents (updL key code wt l k)) ∧ RowKit.Below B0 w wr ∧ KeptT w wr) (fun _ i _ => l.length - (intOf i).toNat)
  case atStart => exact ⟨0, by omega, rfl, by simp, hR2, by rw [updL_zero]; exact hO2, kB3, kT2⟩
  case round =>
    obtain ⟨k, hk2, rfl, rfl, hR, hO, kB, kT⟩ := hrel
    clear hR2 hO2 kB3 kT2 y0
    have yv := hR.cell (i := 0) (by omega)
    by_cases hlt : k < l.length
    · have hd : decide ((k : Int) < (l.length : Int)) = true := decide_eq_true (by omega)
      have hO' : wr.ownsRow B0 69 4 (.slice va l.length vc) (updL key code wt l k).length (ents (updL key code wt l k)) := by rw [updL_len]; exact hO
      obtain ⟨g, cap, cur, hv2, hBg, hg, hblk, _⟩ := own_open hO' (by rw [updL_len]; omega)
      injection hv2 with e1 e2 e3
      subst e1
      subst e3
      clear e2
      obtain ⟨a3, c3, hv3, hE3⟩ := ens_own hO'
      obtain ⟨g3, e4, _, hc⟩ := hE3 (by rw [updL_len]; omega)
      injection hv3 with e1 e2 e3
      subst e1
      injection e4 with e4
      injection e4 with e4
      subst e4
      clear e2 e3 hE3 hO'
      rw [updL_len] at hc
      have hgk := updL_get key code wt l k k hlt
      rw [if_neg (by omega)] at hgk
      have hsame : hitE key code (l.getD k e0) = false → updL key code wt l (k + 1) = updL key code wt l k := own_same hlt
      have hany := any_succ key code l k hlt
      have c0 := hc k hlt 0 (by omega)
      have c1 := hc k hlt 1 (by omega)
      have c2 := hc k hlt 2 (by omega)
      have c3 := hc k hlt 3 (by omega)
      rw [hgk] at c0 c1 c2 c3
      have hput := fun (w4 : World) h1 h2 h3 h4 => own_put (B := B0) (g := g) (n := l.length) (cap := vc) (k := k) (l := l) (key := key) (code := code) (wt := wt) (cur := cur) (w := w4) hlt rfl h1 h2 h3 h4
      generalize l.getD k e0 = x at *
      simp only [enF, Nat.add_zero] at c0 c1 c2 c3
      replace hc := Lib.hid hc
      replace hput := Lib.hid hput
      replace hany := Lib.hid hany
      clear hgk
      go_upto_region 6 with (fail)
      have k4 := row_lit wr #[.int .u64 x.1, .int .u16 x.2.1, .int .u16 x.2.2.1, .int .u32 x.2.2.2] 69
      have hO4 := hO.alloc (.cells #[.int .u64 x.1, .int .u16 x.2.1, .int .u16 x.2.2.1, .int .u32 x.2.2.2] 69)
      have hR4 := hR.alloc (.cells #[.int .u64 x.1, .int .u16 x.2.1, .int .u16 x.2.2.1, .int .u32 x.2.2.2] 69)
      have kB4 := kB.alloc (by have := hR.lt; omega) (.cells #[.int .u64 x.1, .int .u16 x.2.1, .int .u16 x.2.2.1, .int .u32 x.2.2.2] 69)
      have kT4 := kT.trans (keptT_alloc wr (.cells #[.int .u64 x.1, .int .u16 x.2.1, .int .u16 x.2.2.1, .int .u32 x.2.2.2] 69))
      have hg4 : (wr.alloc (.cells #[.int .u64 x.1, .int .u16 x.2.1, .int .u16 x.2.2.1, .int .u32 x.2.2.2] 69)).heap[g]? = some (.cells cur 69 (0, 0)) := by rw [heap_alloc_old wr _ hg]; exact hblk
      have hkB : RowKit.Below wr.heap.size wr (wr.alloc (.cells #[.int .u64 x.1, .int .u16 x.2.1, .int .u16 x.2.2.1, .int .u32 x.2.2.2] 69)) := (RowKit.Below.refl _ _).alloc (Nat.le_refl _) _
      have hc4 := Lib.hid (fun i (hi : i < l.length) j (hj : j < 4) => (hkB.cell (show (⟨g, i * 4 + j, none⟩ : Addr).block < wr.heap.size from hg)).trans (hc.out i hi j hj))
      replace c2 := (hkB.cell (show (⟨g, k * 4 + 2, none⟩ : Addr).block < wr.heap.size from hg)).trans c2
      clear hkB hc hblk hR hO kB kT c0 c1 c3 yv
      generalize wr.alloc (.cells #[.int .u64 x.1, .int .u16 x.2.1, .int .u16 x.2.2.1, .int .u32 x.2.2.2] 69) = w4 at *
      have d0 : w4.cell? ⟨wr.heap.size, 0, none⟩ = some (.int .u64 x.1) := k4.cell (i := 0) (by simp)
      have d1 : w4.cell? ⟨wr.heap.size, 1, none⟩ = some (.int .u16 x.2.1) := k4.cell (i := 1) (by simp)
      have yv := hR4.cell (i := 0) (by omega)
      have yf : w4.frozen? ⟨g, k * 4 + 2, none⟩ = false := by simp [World.frozen?, hg4]
      have hne : g ≠ pb := fun e => by
        have h1 := rowIs_block hR4
        rw [← e, hg4] at h1
        simp at h1
      have hP := Lib.hid (fun h => hput.out w4 hO4 hg4 h hc4.out)
      have hT := Lib.hid (keptT_setE kT4 hg4 (k * 4 + 2) (.int .u16 wt))
      have hRs := Lib.hid (hR4.setOther (a := ⟨g, k * 4 + 2, none⟩) (fun e => hne e.symm) (.int .u16 wt))
      have hBs := Lib.hid (kB4.setCell (p := ⟨g, k * 4 + 2, none⟩) (by exact hBg) (.int .u16 wt))
      have hno := Lib.hid (And.intro hR4 (And.intro hO4 (And.intro kB4 kT4)))
      clear hput hc4 k4 hO4 hR4 kB4 kT4 hg4
      cases hh : (x.1 == key)
      · have hhit : hitE key code x = false := by simp [hitE, hh]
        rw [hhit] at hany hP
        replace hsame := Lib.hid (hsame hhit)
        clear hhit hP
        go_wp2_with (fail)
        exact ⟨⟨k + 1, by omega, by go_num, by rw [hany.out, Bool.or_false], hno.out.1, by rw [hsame.out]; exact hno.out.2.1, hno.out.2.2.1, hno.out.2.2.2⟩, by simp [intOf]; omega⟩
      · cases hh2 : (x.2.1 == code)
        · have hhit : hitE key code x = false := by simp [hitE, hh2]
          rw [hhit] at hany hP
          replace hsame := Lib.hid (hsame hhit)
          clear hhit hP
          go_wp2_with (fail)
          exact ⟨⟨k + 1, by omega, by go_num, by rw [hany.out, Bool.or_false], hno.out.1, by rw [hsame.out]; exact hno.out.2.1, hno.out.2.2.1, hno.out.2.2.2⟩, by simp [intOf]; omega⟩
        · have hhit : hitE key code x = true := by simp [hitE, hh, hh2]
          rw [hhit] at hany
          replace hP := Lib.hid (hP.out hhit)
          clear hhit hsame
          go_wp2_with (fail)
          exact ⟨⟨k + 1, by omega, by go_num, by rw [hany.out, Bool.or_true], hRs.out, hP.out, hBs.out, hT.out⟩, by simp [intOf]; omega⟩
    · obtain rfl : k = l.length := by omega
      rw [List.take_length]
      rw [updL_all] at hO
      have hO' : wr.ownsRow B0 69 4 (.slice va l.length vc) (l.map (updE key code wt)).length (ents (l.map (updE key code wt))) := by rw [List.length_map]; exact hO
      have hfin := Lib.hid (And.intro (⟨_, hR, hO'⟩ : Bk pb B0 (l.map (updE key code wt)) wr) (And.intro kB kT))
      have hsz := hR.lt
      clear hR hO hO' kB kT yv hk2
      cases hu : l.any (hitE key code)
      · go_wp2_with (fail)
        refine (newErr_any _ wr).mono ?_
        rintro e w5 ⟨⟨ad, rfl⟩, hb5⟩
        have hfin2 := Lib.hid (And.intro (Bk.below hfin.out.1 hb5) (And.intro (hfin.out.2.1.trans (hb5.mono (by omega))) (hfin.out.2.2.trans (KeptT.of_below hb5))))
        clear hfin hb5
        go_wp2_with (fail)
        go_ret
        exact ⟨_, rfl, .inr ⟨⟨_, rfl⟩, hu⟩, hfin2.out⟩
      · go_wp2_with (fail)
        go_ret
        exact ⟨_, rfl, .inl ⟨rfl, hu⟩, hfin.out⟩
theorem own_weak {B B' n k : Nat} {T : TypeId} {v : Value} {xs : List Value} {w : World} (h : w.ownsRow B T k v n xs) (hB : B' ≤ B) : w.ownsRow B' T k v n xs := by
  obtain ⟨h0, h' | ⟨g, cap, cur, hv, hB2, hr⟩⟩ := h
  · exact ⟨h0, .inl h'⟩
  · exact ⟨h0, .inr ⟨g, cap, cur, hv, Nat.le_trans hB hB2, hr⟩⟩
def offL (key : Int) (l : List En) : List En := l.filter fun x => x.1 != key
theorem offL_succ (l : List En) (key : Int) (k : Nat) (h : k < l.length) : offL key (l.take (k + 1)) = offL key (l.take k) ++ if ((l.getD k e0).1 != key) = true then [l.getD k e0] else [] := by
  unfold offL
  rw [List.take_add_one, List.getElem?_eq_getElem h, List.getD_eq_getElem?_getD, List.getElem?_eq_getElem h, List.filter_append]
  simp [List.filter_cons]
theorem offL_le (l : List En) (key : Int) : (offL key l).length ≤ l.length := List.length_filter_le _ _
set_option maxRecDepth 100000 in
theorem delMoves_any (pb B0 : Nat) (l : List En) (key : Int) (hl : l.length < 1000) (w : World) (hB : Bk pb B0 l w) (hB0 : B0 ≤ pb) :
    Calls Tryz.prog 12 #[.pointer (some ⟨pb, 0, none⟩), .int .u64 key] w fun e w' => e = .returned (.tuple #[]) ∧ Bk pb B0 (offL key l) w' ∧ RowKit.Below B0 w w' ∧ KeptT w w' := by
  obtain ⟨v, hR, hO⟩ := hB
  obtain ⟨va, vc, rfl, hE⟩ := ens_own hO
  have y0 := hR.cell (i := 0) (by omega)
  have hpl := hR.lt
  go_enter Tryz.func12, Tryz.ntmps12
  go_wp2_with (fail)
  go_loopw [4, 12] (fun u i wr => ∃ k : Nat, k ≤ l.length ∧ i = .int .i64 (k : Int) ∧ wr.ownsRow w.heap.size 69 4 u (offL key (l.take k)).length (ents (offL key (l.take k))) ∧ RowKit.Below w.heap.size w wr) (fun _ i _ => l.length - (intOf i).toNat)
  case atStart => exact ⟨0, by omega, rfl, World.ownsRow_nil _ _ _ _, RowKit.Below.refl _ _⟩
  case round =>
    obtain ⟨k, hk, rfl, ho, kB⟩ := hrel
    by_cases hlt : k < l.length
    · obtain ⟨g, rfl, hg, hc⟩ := hE (by omega)
      clear hE
      have hs := offL_succ l key k hlt
      have hle := offL_le (l.take k) key
      have hle2 : (l.take k).length ≤ k := by simp; omega
      have c0 := (kB.cell (show (⟨g, k * 4 + 0, none⟩ : Addr).block < w.heap.size from hg)).trans (hc k hlt 0 (by omega))
      have c1 := (kB.cell (show (⟨g, k * 4 + 1, none⟩ : Addr).block < w.heap.size from hg)).trans (hc k hlt 1 (by omega))
      have c2 := (kB.cell (show (⟨g, k * 4 + 2, none⟩ : Addr).block < w.heap.size from hg)).trans (hc k hlt 2 (by omega))
      have c3 := (kB.cell (show (⟨g, k * 4 + 3, none⟩ : Addr).block < w.heap.size from hg)).trans (hc k hlt 3 (by omega))
      generalize l.getD k e0 = x at *
      simp only [enF, Nat.add_zero] at c0 c1 c2 c3
      clear hc
      generalize hF : offL key (l.take k) = F at *
      clear hF
      have ho2 := ho.alloc (.cells #[.int .u64 x.1, .int .u16 x.2.1, .int .u16 x.2.2.1, .int .u32 x.2.2.2] 69)
      have kB2 := kB.alloc kB.size (.cells #[.int .u64 x.1, .int .u16 x.2.1, .int .u16 x.2.2.1, .int .u32 x.2.2.2] 69)
      cases hd : (x.1 != key)
      · rw [hd, if_neg (by simp), List.append_nil] at hs
        replace hs := Lib.hid hs
        replace ho2 := Lib.hid ho2
        replace kB2 := Lib.hid kB2
        clear hle hle2 ho kB
        go_wp2_with (fail)
        exact ⟨⟨k + 1, by omega, by go_num, by rw [hs.out]; exact ho2.out, kB2.out⟩, by simp [intOf]; omega⟩
      · rw [hd, if_pos rfl] at hs
        have hx : ∀ (v : Value) (w2 : World), w2.ownsRow w.heap.size 69 4 v (F.length + 1) (ents F ++ [.int .u64 x.1, .int .u16 x.2.1, .int .u16 x.2.2.1, .int .u32 x.2.2.2]) → w2.ownsRow w.heap.size 69 4 v (offL key (l.take (k + 1))).length (ents (offL key (l.take (k + 1)))) := fun v w2 h => by
          rw [hs, ents_app, List.length_append]; exact h
        replace hx := Lib.hid hx
        have hone := one_enc x
        unfold encE at hone
        have hk2 : F.length < 1000000000 := by omega
        have hgs : wr.heap.size + 1 = (wr.alloc (.cells #[.int .u64 x.1, .int .u16 x.2.1, .int .u16 x.2.2.1, .int .u32 x.2.2.2] 69)).heap.size := by simp
        replace hgs := Lib.hid hgs
        replace hs := Lib.hid hs
        clear ho kB hle hle2
        go_wp2_with (at_builtin; refine wpList_app rfl _ _ 62 rfl w.heap.size 69 (.agg #[.int .u64 0, .int .u16 0, .int .u16 0, .int .u32 0]) 4 16 Tryz.underlying62 infoPe rfl (by decide) _ F.length (ents F) rfl ho2 kB2 (Nat.le_refl _) [.int .u64 x.1, .int .u16 x.2.1, .int .u16 x.2.2.1, .int .u32 x.2.2.2] hone rfl (wr.heap.size + 1) hgs.out rfl hk2 (by decide) ?_; intro v' w2 hown2 hb2 hnil; have hown3 := Lib.hid (hx.out _ _ hown2); clear hown2 hnil ho2 kB2 hx hone)
        exact ⟨⟨k + 1, by omega, by go_num, hown3.out, hb2⟩, by simp [intOf]; omega⟩
    · obtain rfl : k = l.length := by omega
      rw [List.take_length] at ho
      clear hE
      have hR2 := rowIs_below hR kB hR.lt
      have yv := hR2.cell (i := 0) (by omega)
      have yf := hR2.frozen 0
      obtain ⟨ua, un, uc, hu⟩ : ∃ a n c, u4 = Value.slice a n c := by
        rcases ho.2 with ⟨hv, _⟩ | ⟨_, _, _, hv, _⟩ <;> exact ⟨_, _, _, hv⟩
      subst hu
      have nE := (hR2.set 0 (.slice ua un uc)).congr (g := fun _ => .slice ua un uc) (fun j hj => by (obtain rfl : j = 0 := by omega); simp)
      have nO := own_kept (p := fun q => q = pb) ho (⟨rfl, rfl, rfl, by simp, fun q hq hne => Below.heap_setCell _ _ _ _ (by simpa using hne)⟩ : KeptBut (fun q => q = pb) wr (wr.setCell ⟨pb, 0, none⟩ (.slice ua un uc))) (fun q hq cc hcc => by (have := rowIs_block hR2); (rw [hq] at hcc); (rw [this] at hcc); cases hcc)
      have nB := (kB.mono (show B0 ≤ w.heap.size by omega)).setCell (p := ⟨pb, 0, none⟩) hB0 (.slice ua un uc)
      have nT := keptT_set (KeptT.of_below kB) hR2 0 (.slice ua un uc)
      have hfin := Lib.hid (And.intro (⟨_, nE, own_weak nO (by omega)⟩ : Bk pb B0 (offL key l) _) (And.intro nB nT))
      clear nE nO nB nT hR hO ho kB hR2
      go_wp2_with (fail)
      go_end0
      exact ⟨rfl, hfin.out⟩
end Go.Proofs.YtpoomblloahahaaGreatDoor

/- The text of a move between two squares: the program's. -/
import Derived.Test.YtoigijloeillbaaDoorPoE
import Derived.Test.YtoigijloeillbaaDoorLayU
import Derived.Shelf.Strings.Builder2
import Derived.Laws.AppendOwn
namespace Go.Proofs.YtoigijloeillbaaDoor
open Go.ChangeShapes Go.WideShapes Go.ChangeAt Go.RowKit Go.PlainAid
set_option maxHeartbeats 1000000
set_option linter.unusedVariables false
set_option linter.unusedSimpArgs false
attribute [local go_sem] tx_list tx_size bt_tx

theorem info8 : (Tryd.prog.info? 5).map (fun i => (i.zero, i.size, i.bytes)) = some (some (.int .u8 0), 1, 1) := by kernel_rfl
abbrev BAt (B b : Nat) (bs : List Value) (w : World) : Prop := Lib.BuilderAt 91 5 B b (.pointer (some ⟨b, 0, none⟩)) bs w
set_option maxRecDepth 100000 in
theorem write_any (B b : Nat) (bs : List Value) (g m c : Nat) (news : List Value) (w : World) (h : BAt B b bs w)
    (hl : news.length = m) (hnews : ∀ j u, news[j]? = some u → w.cell? ((⟨g, 0, none⟩ : Addr).add j) = some u) (h1 : ∀ u ∈ news, u.oneCell' = true) (hlen : bs.length + m ≤ 1000000) (hBw : B ≤ w.heap.size) :
    Calls Tryd.prog 41 #[.pointer (some ⟨b, 0, none⟩), .slice (some ⟨g, 0, none⟩) m c] w fun e w' => e = .returned (.tuple #[.int .i64 m, .nilIface]) ∧ BAt B b (bs ++ news) w' ∧ Below B w w' := by
  obtain ⟨i0, hi, hz0, hz1, hz2⟩ := info_parts info8
  have hcc := Lib.hid (Any.Builder_copyCheck_used lays_Lays_n240 lays_Builder_Extra.toX72 b w h.cell0)
  obtain ⟨hB, v, hbk, hown, hne⟩ := h
  have c0 : w.cell? ⟨b, 0, none⟩ = some (.pointer (some ⟨b, 0, none⟩)) := by rw [Lib.cell_of_heap hbk]; rfl
  have c1 : w.cell? ⟨b, 1, none⟩ = some v := by rw [Lib.cell_of_heap hbk]; rfl
  go_enter Tryd.func41, Tryd.ntmps41
  go_wp2_with (fail)
  refine hcc.out.mono ?_
  rintro e w1 ⟨rfl, rfl⟩
  go_wp2_with (at_builtin; refine wpList_append_own _ rfl _ _ 78 rfl B 5 i0 (.int .u8 0) 1 1 Tryd.underlying78 hi hz0 hz1 hz2 rfl (by decide) _ _ _ rfl hown ⟨g, 0, none⟩ m c news rfl (by omega) hnews h1 ?c3 ?c4 ?c5 ?_)
  case c3 => unfold maxLen; omega
  case c4 => omega
  case c5 => omega
  intro v' w2 hown' hgrow _
  have hlt : b < w1.heap.size := by
    rcases Nat.lt_or_ge b w1.heap.size with h' | h'
    · exact h'
    · simp [Array.getElem?_eq_none h'] at hbk
  have hb2 : w2.heap[b]? = some (.cells #[.pointer (some ⟨b, 0, none⟩), v] 91 (0, 0)) := by
    rw [hgrow.block b hlt (fun e => hne e.symm)]
    exact hbk
  have d0 : w2.cell? ⟨b, 0, none⟩ = some (.pointer (some ⟨b, 0, none⟩)) := by rw [Lib.cell_of_heap hb2]; rfl
  have d1 : w2.cell? ⟨b, 1, none⟩ = some v := by rw [Lib.cell_of_heap hb2]; rfl
  have f1 : w2.frozen? ⟨b, 1, none⟩ = false := Lib.frozen_of_heap hb2 1
  obtain ⟨ao, n', cap, rfl⟩ : ∃ ao n' cap, v' = .slice ao n' cap := by
    rcases hown'.2 with ⟨hv, _⟩ | ⟨g, cap, cur, hv, _⟩
    · exact ⟨_, _, _, hv⟩
    · exact ⟨_, _, _, hv⟩
  have hfin : BAt B b (bs ++ news) (w2.setCell ⟨b, 1, none⟩ (.slice ao n' cap)) := Lib.BuilderAt.put hB hb2 (bs' := bs ++ news) (by simpa [hl] using hown') (by decide)
  have hbl : Below B w1 (w2.setCell ⟨b, 1, none⟩ (.slice ao n' cap)) := ((Below.refl B w1).grown hgrow (by omega) (fun k hk => (hown.lt k hk).1)).setCell (p := ⟨b, 1, none⟩) hB _
  replace hfin := Lib.hid hfin
  replace hbl := Lib.hid hbl
  clear hnews hown hown' hgrow hbk hb2 hi
  go_wp2_with (fail)
  go_ret2
  exact ⟨rfl, hfin.out, hbl.out⟩
theorem reset_new (w : World) (b : Nat) (hb : b = w.heap.size) :
    Calls Tryd.prog 39 #[.pointer (some ⟨b, 0, none⟩)] (w.alloc (.cells #[.pointer none, .slice none 0 0] 91)) fun e w' => e = .returned (.tuple #[]) ∧ w.alloc (.cells #[.pointer none, .slice none 0 0] 91) = w' := by
  subst hb
  go_enter Tryd.func39, Tryd.ntmps39
  go_wp2
  first | go_end0 | refine bodyPost_ret (results_none rfl _ _ _) rfl ?_
  exact ⟨rfl, rfl⟩
/-- A new slice of bytes. -/
def NewBytes (l : List UInt8) (w : World) (e : Ending) (w' : World) : Prop :=
  ∃ g c, e = .returned (.slice (some ⟨g, 0, none⟩) l.length c) ∧ (∀ j u, (Lib.byteCells l)[j]? = some u → w'.cell? ((⟨g, 0, none⟩ : Addr).add j) = some u) ∧ Below w.heap.size w w'
theorem fbyte_any (s : Int) (h0 : 0 ≤ s) (h1 : s < 8) (w : World) : Calls Tryd.prog 52 #[.int .i8 s] w fun e w' => e = .returned (.int .u8 (97 + s)) ∧ w = w' := by
  have : s = 0 ∨ s = 1 ∨ s = 2 ∨ s = 3 ∨ s = 4 ∨ s = 5 ∨ s = 6 ∨ s = 7 := by omega
  rcases this with rfl | rfl | rfl | rfl | rfl | rfl | rfl | rfl
  all_goals
    go_enter Tryd.func52, Tryd.ntmps52
    go_wp2
    go_ret
    exact ⟨rfl, rfl⟩
theorem rbyte_any (s : Int) (h0 : 0 ≤ s) (h1 : s < 8) (w : World) : Calls Tryd.prog 53 #[.int .i8 s] w fun e w' => e = .returned (.int .u8 (49 + s)) ∧ w = w' := by
  have : s = 0 ∨ s = 1 ∨ s = 2 ∨ s = 3 ∨ s = 4 ∨ s = 5 ∨ s = 6 ∨ s = 7 := by omega
  rcases this with rfl | rfl | rfl | rfl | rfl | rfl | rfl | rfl
  all_goals
    go_enter Tryd.func53, Tryd.ntmps53
    go_wp2
    go_ret
    exact ⟨rfl, rfl⟩
def sqT (s : Int) : List UInt8 := [byt (97 + s % 8), byt (49 + s / 8)]
theorem sqBytes_any (s : Int) (h0 : 0 ≤ s) (h1 : s < 64) (w : World) : Calls Tryd.prog 42 #[.int .i8 s] w fun e w' => NewBytes (sqT s) w e w' := by
  have e1 := byt_nat (97 + s % 8) (by omega) (by omega)
  have e2 := byt_nat (49 + s / 8) (by omega) (by omega)
  go_enter Tryd.func42, Tryd.ntmps42
  go_wp2_with (first
    | (go_at_call 35; refine (file_any _ ?_ ?_ _).mono ?_; (· omega); (· omega); rintro e w1 ⟨rfl, rfl⟩)
    | (go_at_call 36; refine (rank_any _ ?_ ?_ _).mono ?_; (· omega); (· omega); rintro e w1 ⟨rfl, rfl⟩)
    | (go_at_call 52; refine (fbyte_any _ ?_ ?_ _).mono ?_; (· omega); (· omega); rintro e w1 ⟨rfl, rfl⟩)
    | (go_at_call 53; refine (rbyte_any _ ?_ ?_ _).mono ?_; (· omega); (· omega); rintro e w1 ⟨rfl, rfl⟩))
  go_ret
  refine ⟨_, _, rfl, ?_, (Below.refl _ _).alloc (Nat.le_refl _) _⟩
  refine fun j u hj => cells_new rfl j u ?_
  rw [← hj]
  simp only [Lib.byteCells, sqT, List.map_cons, List.map_nil, e1, e2]
def letK (p : Int) : Int := if p = 2 then 113 else if p = 3 then 114 else if p = 4 then 98 else 110
theorem letK_range (p : Int) : 0 ≤ letK p ∧ letK p < 256 := by unfold letK; repeat' split <;> omega
theorem kindBytes_any (p : Int) (hp : 2 ≤ p ∧ p ≤ 5) (w : World) : Calls Tryd.prog 43 #[.int .i8 p] w fun e w' => NewBytes [byt (letK p)] w e w' := by
  have : p = 2 ∨ p = 3 ∨ p = 4 ∨ p = 5 := by omega
  rcases this with rfl | rfl | rfl | rfl
  all_goals
    go_enter Tryd.func43, Tryd.ntmps43
    go_wp2
    go_ret
    exact ⟨_, _, rfl, fun j u hj => cells_new rfl j u hj, (Below.refl _ _).alloc (Nat.le_refl _) _⟩
theorem own_below {B t k n : Nat} {v : Value} {xs : List Value} {w w' : World} (h : w.ownsRow B t k v n xs) (hb : Below w.heap.size w w') : w'.ownsRow B t k v n xs := by
  obtain ⟨h0, h | ⟨g, cap, cur, hv, hB, hg, hr⟩⟩ := h
  · exact ⟨h0, .inl h⟩
  · have hlt : g < w.heap.size := by
      rcases Nat.lt_or_ge g w.heap.size with h | h
      · exact h
      · rw [Array.getElem?_eq_none h] at hg; cases hg
    exact ⟨h0, .inr ⟨g, cap, cur, hv, hB, (hb.block g hlt).trans hg, hr⟩⟩
theorem bat_below {B b : Nat} {bs : List Value} {w w' : World} (h : BAt B b bs w) (hb : Below w.heap.size w w') : BAt B b bs w' := by
  have hlt := h.lt
  obtain ⟨hB, v, hbk, hown, hne⟩ := h
  exact ⟨hB, v, (hb.block b hlt).trans hbk, own_below hown hb, hne⟩
/-- What holds while the text is written: the builder, the move's block. -/
def EncW (g : Nat) (a b p : Int) (acc : List UInt8) (w0 v : World) : Prop :=
  BAt (w0.heap.size + 1) (w0.heap.size + 1) (Lib.byteCells acc) v ∧ v.rowIs g 53 11 (mvF a b p 0) ∧ g < w0.heap.size ∧ Below w0.heap.size w0 v ∧ w0.heap.size + 1 ≤ v.heap.size
theorem EncW.below {g : Nat} {a b p : Int} {acc : List UInt8} {w0 v v' : World} (h : EncW g a b p acc w0 v) (hb : Below v.heap.size v v') : EncW g a b p acc w0 v' := by
  obtain ⟨h1, h2, h3, h4, h5⟩ := h
  exact ⟨bat_below h1 hb, rowIs_below h2 hb h2.lt, h3, h4.trans (hb.mono h4.size), Nat.le_trans h5 hb.size⟩
theorem write_enc {g : Nat} {a b p : Int} {acc : List UInt8} {w0 v : World} (h : EncW g a b p acc w0 v) (x : List UInt8) (hl : acc.length + x.length ≤ 1000) (g2 c : Nat) (hc : ∀ j u, (Lib.byteCells x)[j]? = some u → v.cell? ((⟨g2, 0, none⟩ : Addr).add j) = some u) :
    Calls Tryd.prog 41 #[.pointer (some ⟨w0.heap.size + 1, 0, none⟩), .slice (some ⟨g2, 0, none⟩) x.length c] v fun e v' => e = .returned (.tuple #[.int .i64 (x.length : Nat), .nilIface]) ∧ EncW g a b p (acc ++ x) w0 v' := by
  obtain ⟨h1, h2, h3, h4, h5⟩ := h
  refine (write_any _ _ _ g2 x.length c (Lib.byteCells x) v h1 (Lib.byteCells_length x) hc ?_ ?_ h5).mono ?_
  · intro u hu
    simp only [Lib.byteCells, List.mem_map] at hu
    obtain ⟨y, _, rfl⟩ := hu
    rfl
  · rw [Lib.byteCells_length]; omega
  · rintro e v' ⟨rfl, hb, hbl⟩
    refine ⟨rfl, ?_, rowIs_below h2 hbl (by omega), h3, h4.trans (hbl.mono (by omega)), Nat.le_trans h5 hbl.size⟩
    have e1 : Lib.byteCells (acc ++ x) = Lib.byteCells acc ++ Lib.byteCells x := by simp [Lib.byteCells]
    rw [e1]; exact hb
theorem grow_new (g : Nat) (a b p : Int) (w0 v : World) (hm : v.rowIs g 53 11 (mvF a b p 0)) (hg : g < w0.heap.size) (hb : Below w0.heap.size w0 v) (hs : v.heap.size = w0.heap.size + 2)
    (hbk : v.heap[w0.heap.size + 1]? = some (.cells #[.pointer none, .slice none 0 0] 91 (0, 0))) :
    Calls Tryd.prog 40 #[.pointer (some ⟨w0.heap.size + 1, 0, none⟩), .int .i64 5] v fun e v' => e = .returned (.tuple #[]) ∧ EncW g a b p [] w0 v' := by
  refine (Any.Builder_Grow_fresh lays_Lays_n165 lays_Builder_Extra (w0.heap.size + 1) (w0.heap.size + 1) 5 v (Nat.le_refl _) hbk (by omega) (by decide)).mono ?_
  rintro e v' ⟨rfl, h1, h2⟩
  exact ⟨rfl, h1, rowIs_below hm h2 (by omega), hg, hb.trans (h2.mono (by omega)), by have := h2.size; omega⟩
set_option maxRecDepth 100000 in
theorem encode_0 (g : Nat) (a b p : Int) (ha : 0 ≤ a ∧ a < 64) (hb : 0 ≤ b ∧ b < 64) (hp : p = 0) (w : World) (hm : w.rowIs g 53 11 (mvF a b p 0)) :
    Calls Tryd.prog 24 #[.agg #[], .pointer none, .pointer (some ⟨g, 0, none⟩)] w fun e w' => e = .returned (.string (tx (sqT a ++ sqT b))) ∧ Below w.heap.size w w' := by
  have hgl := hm.lt
  have k0 := (hm.alloc (.cells #[] 65)).alloc (.cells #[.pointer none, .slice none 0 0] 91)
  have k1 : Below w.heap.size w ((w.alloc (.cells #[] 65)).alloc (.cells #[.pointer none, .slice none 0 0] 91)) := ((Below.refl _ _).alloc (Nat.le_refl _) _).alloc (by simp) _
  have k2 : ((w.alloc (.cells #[] 65)).alloc (.cells #[.pointer none, .slice none 0 0] 91)).heap.size = w.heap.size + 2 := by simp
  have k3 : ((w.alloc (.cells #[] 65)).alloc (.cells #[.pointer none, .slice none 0 0] 91)).heap[w.heap.size + 1]? = some (.cells #[.pointer none, .slice none 0 0] 91 (0, 0)) := by
    have := heap_alloc_new (w.alloc (.cells #[] 65)) (.cells #[.pointer none, .slice none 0 0] 91)
    rw [World.size_alloc] at this; exact this
  have hgr := Lib.hid (grow_new g a b p w _ k0 hgl k1 k2 k3)
  subst hp
  clear k0 k1 k2 k3 hm
  go_enter Tryd.func24, Tryd.ntmps24
  go_wp2_with (fail)
  refine (reset_new _ _ (by simp)).mono ?_
  rintro e w1 ⟨rfl, rfl⟩
  go_wp2_with (fail)
  refine hgr.out.mono ?_
  rintro e w2 ⟨rfl, hE⟩
  clear hgr
  replace hE := Lib.hid hE
  go_wp2_with (fail)
  refine (get0_any g a b _ 0 w2 hE.out.2.1).mono ?_
  rintro e w3 ⟨rfl, rfl⟩
  go_wp2_with (fail)
  refine (sqBytes_any a ha.1 ha.2 _).mono ?_
  rintro e w4 ⟨g1, c1, rfl, hc1, hb4⟩
  have hE4 := hE.out.below hb4
  clear hE hb4
  replace hE4 := Lib.hid hE4
  replace hc1 := Lib.hid hc1
  go_wp2_with (fail)
  refine (write_enc hE4.out (sqT a) (by simp [sqT]) g1 c1 hc1.out).mono ?_
  rintro e w5 ⟨rfl, hE5⟩
  clear hE4 hc1
  replace hE5 := Lib.hid hE5
  go_wp2_with (fail)
  refine (get1_any g a b _ 0 w5 hE5.out.2.1).mono ?_
  rintro e w6 ⟨rfl, rfl⟩
  go_wp2_with (fail)
  refine (sqBytes_any b hb.1 hb.2 _).mono ?_
  rintro e w7 ⟨g2, c2, rfl, hc2, hb7⟩
  have hE7 := hE5.out.below hb7
  clear hE5 hb7
  replace hE7 := Lib.hid hE7
  replace hc2 := Lib.hid hc2
  go_wp2_with (fail)
  refine (write_enc hE7.out (sqT b) (by simp [sqT]) g2 c2 hc2.out).mono ?_
  rintro e w8 ⟨rfl, hE8⟩
  clear hE7 hc2
  replace hE8 := Lib.hid hE8
  go_wp2_with (fail)
  refine (get2_any g a b _ 0 w8 hE8.out.2.1).mono ?_
  rintro e w9 ⟨rfl, rfl⟩
  go_wp2_with (fail)
  refine (Any.Builder_String_any lays_Lays_n169 lays_Builder_Extra (w.heap.size + 1) (w.heap.size + 1) ([] ++ sqT a ++ sqT b) w8 (.inr hE8.out.1) hE8.out.2.2.2.2).mono ?_
  rintro e w10 ⟨rfl, hb10⟩
  have hB := hE8.out.2.2.2.1.trans (hb10.mono (by omega))
  go_wp2_with (fail)
  go_ret
  exact ⟨rfl, hB⟩
set_option maxRecDepth 100000 in
theorem encode_1 (g : Nat) (a b p : Int) (ha : 0 ≤ a ∧ a < 64) (hb : 0 ≤ b ∧ b < 64) (hp : 2 ≤ p ∧ p ≤ 5) (w : World) (hm : w.rowIs g 53 11 (mvF a b p 0)) :
    Calls Tryd.prog 24 #[.agg #[], .pointer none, .pointer (some ⟨g, 0, none⟩)] w fun e w' => e = .returned (.string (tx (sqT a ++ sqT b ++ [byt (letK p)]))) ∧ Below w.heap.size w w' := by
  have hgl := hm.lt
  have k0 := (hm.alloc (.cells #[] 65)).alloc (.cells #[.pointer none, .slice none 0 0] 91)
  have k1 : Below w.heap.size w ((w.alloc (.cells #[] 65)).alloc (.cells #[.pointer none, .slice none 0 0] 91)) := ((Below.refl _ _).alloc (Nat.le_refl _) _).alloc (by simp) _
  have k2 : ((w.alloc (.cells #[] 65)).alloc (.cells #[.pointer none, .slice none 0 0] 91)).heap.size = w.heap.size + 2 := by simp
  have k3 : ((w.alloc (.cells #[] 65)).alloc (.cells #[.pointer none, .slice none 0 0] 91)).heap[w.heap.size + 1]? = some (.cells #[.pointer none, .slice none 0 0] 91 (0, 0)) := by
    have := heap_alloc_new (w.alloc (.cells #[] 65)) (.cells #[.pointer none, .slice none 0 0] 91)
    rw [World.size_alloc] at this; exact this
  have hgr := Lib.hid (grow_new g a b p w _ k0 hgl k1 k2 k3)
  have hp0 : (p != 0) = true := by simp only [bne_iff_ne, ne_eq]; omega
  clear k0 k1 k2 k3 hm
  go_enter Tryd.func24, Tryd.ntmps24
  go_wp2_with (fail)
  refine (reset_new _ _ (by simp)).mono ?_
  rintro e w1 ⟨rfl, rfl⟩
  go_wp2_with (fail)
  refine hgr.out.mono ?_
  rintro e w2 ⟨rfl, hE⟩
  clear hgr
  replace hE := Lib.hid hE
  go_wp2_with (fail)
  refine (get0_any g a b _ 0 w2 hE.out.2.1).mono ?_
  rintro e w3 ⟨rfl, rfl⟩
  go_wp2_with (fail)
  refine (sqBytes_any a ha.1 ha.2 _).mono ?_
  rintro e w4 ⟨g1, c1, rfl, hc1, hb4⟩
  have hE4 := hE.out.below hb4
  clear hE hb4
  replace hE4 := Lib.hid hE4
  replace hc1 := Lib.hid hc1
  go_wp2_with (fail)
  refine (write_enc hE4.out (sqT a) (by simp [sqT]) g1 c1 hc1.out).mono ?_
  rintro e w5 ⟨rfl, hE5⟩
  clear hE4 hc1
  replace hE5 := Lib.hid hE5
  go_wp2_with (fail)
  refine (get1_any g a b _ 0 w5 hE5.out.2.1).mono ?_
  rintro e w6 ⟨rfl, rfl⟩
  go_wp2_with (fail)
  refine (sqBytes_any b hb.1 hb.2 _).mono ?_
  rintro e w7 ⟨g2, c2, rfl, hc2, hb7⟩
  have hE7 := hE5.out.below hb7
  clear hE5 hb7
  replace hE7 := Lib.hid hE7
  replace hc2 := Lib.hid hc2
  go_wp2_with (fail)
  refine (write_enc hE7.out (sqT b) (by simp [sqT]) g2 c2 hc2.out).mono ?_
  rintro e w8 ⟨rfl, hE8⟩
  clear hE7 hc2
  replace hE8 := Lib.hid hE8
  go_wp2_with (fail)
  refine (get2_any g a b _ 0 w8 hE8.out.2.1).mono ?_
  rintro e w9 ⟨rfl, rfl⟩
  go_wp2_with (fail)
  refine (get2_any g a b _ 0 w8 hE8.out.2.1).mono ?_
  rintro e w9 ⟨rfl, rfl⟩
  go_wp2_with (fail)
  refine (kindBytes_any p hp _).mono ?_
  rintro e w11 ⟨g3, c3, rfl, hc3, hb11⟩
  have hE11 := hE8.out.below hb11
  clear hE8 hb11
  replace hE11 := Lib.hid hE11
  replace hc3 := Lib.hid hc3
  go_wp2_with (fail)
  refine (write_enc hE11.out [byt (letK p)] (by simp [sqT]) g3 c3 hc3.out).mono ?_
  rintro e w12 ⟨rfl, hE12⟩
  clear hE11 hc3
  replace hE12 := Lib.hid hE12
  go_wp2_with (fail)
  refine (Any.Builder_String_any lays_Lays_n169 lays_Builder_Extra (w.heap.size + 1) (w.heap.size + 1) ([] ++ sqT a ++ sqT b ++ [byt (letK p)]) w12 (.inr hE12.out.1) hE12.out.2.2.2.2).mono ?_
  rintro e w10 ⟨rfl, hb10⟩
  have hB := hE12.out.2.2.2.1.trans (hb10.mono (by omega))
  go_wp2_with (fail)
  go_ret
  exact ⟨rfl, hB⟩
end Go.Proofs.YtoigijloeillbaaDoor

/- A book is loaded from a source of bytes. -/
import Derived.Test.YtpoomblloahahaaGreatDoorPbI
import Derived.Deep.RegionHeld3
import Derived.LaidEql
import Derived.Deep.Cut
import Derived.Deep.CutRange
namespace Go.Proofs.YtpoomblloahahaaGreatDoor
open Go.Proofs Go.Shelf Go.Sort Go.ChangeShapes Go.WideShapes Go.ChangeAt Go.RowKit Go.PlainAid
set_option maxHeartbeats 2000000
set_option linter.unusedVariables false
set_option linter.unusedSimpArgs false

theorem infoPe : (Tryz.prog.info? 69).map (fun i => (i.zero, i.size, i.bytes)) = some (some (.agg #[.int .u64 0, .int .u16 0, .int .u16 0, .int .u32 0]), 4, 16) := by kernel_rfl
theorem infoU8 : (Tryz.prog.info? 5).map (fun i => (i.zero, i.size, i.bytes)) = some (some (.int .u8 0), 1, 1) := by kernel_rfl
theorem mSize (s : Nat) : ∀ w : World, (method 308 65 (.pointer (some ⟨s, 0, none⟩)) "Size").run Tryz.prog w = .ok (121, .pointer (some ⟨s, 0, none⟩)) w := fun _ => by kernel_rfl
theorem mRead (s : Nat) : ∀ w : World, (method 308 65 (.pointer (some ⟨s, 0, none⟩)) "Read").run Tryz.prog w = .ok (120, .pointer (some ⟨s, 0, none⟩)) w := fun _ => by kernel_rfl
theorem eof_ne (t : TypeId) (ad : Addr) : ∀ w : World, (binOp .eql 44 .nilIface (.iface t (.pointer (some ad)))).run Tryz.prog w = .ok (.bool false) w := fun w => run_eql_iface_nil_left w _ _ Tryz.underlying44
theorem eof_eq (ad : Addr) : ∀ w : World, (binOp .eql 44 (.iface 117 (.pointer (some ad))) (.iface 117 (.pointer (some ad)))).run Tryz.prog w = .ok (.bool true) w := fun w => by
  obtain ⟨i, hi, hic⟩ : ∃ i, Tryz.prog.info? 117 = some i ∧ i.comparable = true := ⟨(Tryz.prog.info? 117).get (by kernel_rfl), by kernel_rfl, by kernel_rfl⟩
  obtain ⟨j, hj⟩ : ∃ j, Tryz.prog.info? 119 = some j := ⟨(Tryz.prog.info? 119).get (by kernel_rfl), by kernel_rfl⟩
  exact run_eql_iface_ptr_same w ad Tryz.underlying44 Tryz.underlying117 hi hic hj
theorem alloc_row {u v : World} {c : Array Value} {t : TypeId} (h : RowKit.Below (u.alloc (.cells c t)).heap.size (u.alloc (.cells c t)) v) : v.rowIs u.heap.size t c.size (fun j => c.getD j undef) := rowIs_below (row_lit u c t) h (by simp)
theorem pe_put {w : World} {p : Nat} {F : Nat → Value} {n : Nat} (hn : n = 4) (h : w.rowIs p 69 n F) (x : En) : ((((w.setCell ⟨p, 0, none⟩ (.int .u64 x.1)).setCell ⟨p, 1, none⟩ (.int .u16 x.2.1)).setCell ⟨p, 2, none⟩ (.int .u16 x.2.2.1)).setCell ⟨p, 3, none⟩ (.int .u32 x.2.2.2)).rowIs p 69 4 (enF x) := by
  subst hn
  exact ((((h.set 0 _).set 1 _).set 2 _).set 3 _).congr (four rfl rfl rfl rfl)
/-- What a load tells of bytes that are no whole entries. -/
def LoadNo (w : World) (e : Ending) (w' : World) : Prop := (∃ ad, e = .returned (.tuple #[.pointer none, .iface 117 (.pointer (some ⟨ad, 0, none⟩))]))
set_option maxRecDepth 100000 in
theorem load_no (s : Nat) (a : Option Addr) (n c : Nat) (W : World) (hs : W.rowIs s 80 2 (srcF (.slice a n c) 0)) (hn : n ≤ 1000) (h16 : n % 16 ≠ 0) :
    Calls Tryz.prog 17 #[.iface 65 (.pointer (some ⟨s, 0, none⟩))] W fun e w' => LoadNo W e w' ∧ Below W.heap.size W w' := by
  have hm := mSize s
  have hsz := Lib.hid (size_any s a n c 0 W hs hn)
  have ht : (n : Int).tmod 16 = ((n % 16 : Nat) : Int) := by rw [Int.tmod_eq_emod_of_nonneg (by omega)]; omega
  have hne : (((n % 16 : Nat) : Int) != 0) = true := by simp only [bne_iff_ne, ne_eq]; omega
  generalize n % 16 = r at *
  go_enter Tryz.func17, Tryz.ntmps17
  go_wp2_with (first
    | (go_at_call 121; refine hsz.out.mono ?_; rintro e w1 ⟨rfl, rfl⟩)
    | (go_at_call 23; refine (newErr_any _ _).mono ?_; rintro e w1 ⟨⟨ad, rfl⟩, hb1⟩))
  go_ret2
  exact ⟨⟨_, rfl⟩, hb1⟩
def FromData (B0 s E g2 : Nat) (v : Value) (L : List UInt8) (k : Nat) (W0 w : World) : Prop :=
  (∃ vv, w.rowIs E 62 1 (fun _ => vv) ∧ w.ownsRow B0 69 4 vv k (ents (readL L k))) ∧ (∃ F, w.rowIs g2 5 16 F) ∧ w.rowIs s 80 2 (srcF v ((16 * k : Nat) : Int)) ∧ Below B0 W0 w
set_option maxRecDepth 100000 in
theorem load_yes (s B0 g o c : Nat) (a : Option Addr) (L : List UInt8) (hA : 0 < L.length → a = some ⟨g, o, none⟩) (W0 W : World) (er : Value) (hB : B0 ≤ s) (hb : Below B0 W0 W) (hBW : B0 ≤ W.heap.size) (hs : W.rowIs s 80 2 (srcF (.slice a L.length c) 0)) (hL : L.length ≤ 1000) (h16 : L.length % 16 = 0)
    (hcap : L.length ≤ c) (hg : 0 < L.length → g < B0) (hd : ∀ i, i < L.length → W.cell? ⟨g, o + i, none⟩ = some (.int .u8 (byI L i))) (heof : W.cell? ⟨0, 0, none⟩ = some er) (her : ∃ ad, er = .iface 117 (.pointer (some ad))) (hB0 : 0 < B0) :
    Calls Tryz.prog 17 #[.iface 65 (.pointer (some ⟨s, 0, none⟩))] W fun e w' => ∃ pb v l, e = .returned (.tuple #[.pointer (some ⟨pb, 0, none⟩), .nilIface]) ∧ B0 ≤ pb ∧ pb < w'.heap.size ∧ w'.cell? ⟨pb, 0, none⟩ = some v ∧ EnS w' v l ∧ l.Perm (readL L (L.length / 16)) ∧ (∀ i j : Nat, i < j → j < l.length → ltK (l.getD j e0) (l.getD i e0) = false) ∧ Below B0 W0 w' ∧ w'.rowIs pb 71 1 (fun _ => v) ∧ w'.ownsRow B0 69 4 v l.length (ents l) := by
  have hm := mSize s
  have hmr := mRead s
  have hsz := Lib.hid (size_any s a L.length c 0 W hs hL)
  have ht : (L.length : Int).tmod 16 = 0 := by rw [Int.tmod_eq_emod_of_nonneg (by omega)]; omega
  have htd : (L.length : Int).tdiv 16 = ((L.length / 16 : Nat) : Int) := by rw [Int.tdiv_eq_ediv_of_nonneg (by omega)]; omega
  have hwd : IntKind.i64.wrap ((L.length / 16 : Nat) : Int) = ((L.length / 16 : Nat) : Int) := by
    simp only [IntKind.wrap, IntKind.bits, IntKind.signed]
    simp
    split <;> omega
  generalize hn : L.length / 16 = n at *
  have hnb : n ≤ 100 := by omega
  obtain ⟨i1, hi1, hz1, hs1, hb1⟩ := info_parts infoPe
  obtain ⟨i2, hi2, hz2, hs2, hb2⟩ := info_parts infoU8
  go_enter Tryz.func17, Tryz.ntmps17
  go_wp2_with (first
    | (go_at_call 121; refine hsz.out.mono ?_; rintro e w1 ⟨rfl, rfl⟩)
    | (at_make; refine wpList_make_own _ rfl _ _ _ rfl B0 69 i1 (.agg #[.int .u64 0, .int .u16 0, .int .u16 0, .int .u32 0]) 4 Tryz.underlying62 hi1 hz1 hs1 .i64 .i64 _ n rfl rfl rfl (by rw [hb1]; omega) (by unfold maxLen; omega) hBW ?_; intro w2 hown hgr)
    | (at_make; refine wpList_make_row _ rfl _ _ _ rfl 5 i2 (.int .u8 0) Tryz.underlying22 hi2 hz2 hs2 rfl .i64 .i64 16 rfl rfl (by rw [hb2]; omega) (by omega) ?_))
  have hb2 : RowKit.Below B0 W0 w2 := hb.grown hgr hBW (fun k hk => by cases hk)
  have hs2' : w2.rowIs s 80 2 (srcF (.slice a L.length c) 0) := hs.of_block (hgr.block s hs.lt (by simp))
  have hlt2 : W.heap.size ≤ w2.heap.size := hgr.size
  obtain ⟨ead, rfl⟩ := her
  have hne := eof_ne 117 ead
  have heq := eof_eq ead
  have kE := (row_lit w2 #[.slice (some ⟨W.heap.size, 0, none⟩) 0 n] 62).alloc (.cells (madeCells #[.int .u8 0] 16) 5)
  have kG := row_lit (w2.alloc (.cells #[.slice (some ⟨W.heap.size, 0, none⟩) 0 n] 62)) (madeCells #[.int .u8 0] 16) 5
  have kO := (hown.alloc (.cells #[.slice (some ⟨W.heap.size, 0, none⟩) 0 n] 62)).alloc (.cells (madeCells #[.int .u8 0] 16) 5)
  have kS := (hs2'.alloc (.cells #[.slice (some ⟨W.heap.size, 0, none⟩) 0 n] 62)).alloc (.cells (madeCells #[.int .u8 0] 16) 5)
  have kB := (hb2.alloc (by omega) (.cells #[.slice (some ⟨W.heap.size, 0, none⟩) 0 n] 62)).alloc (by simp; omega) (.cells (madeCells #[.int .u8 0] 16) 5)
  rw [World.size_alloc] at kG
  rw [size_madeCells] at kG
  have hsE : s < w2.heap.size := hs2'.lt
  have hF : FromData B0 s w2.heap.size (w2.heap.size + 1) (.slice a L.length c) L 0 W0 ((w2.alloc (.cells #[.slice (some ⟨W.heap.size, 0, none⟩) 0 n] 62)).alloc (.cells (madeCells #[.int .u8 0] 16) 5)) := by
    refine ⟨⟨_, kE.congr (fun j hj => ?_), kO⟩, ⟨_, kG⟩, kS, kB⟩
    have hj : j < 1 := hj
    obtain rfl : j = 0 := by omega
    rfl
  have hBE : B0 ≤ w2.heap.size := by omega
  clear kE kG kO kS kB hown hgr hs2' hb2
  generalize ((w2.alloc (.cells #[.slice (some ⟨W.heap.size, 0, none⟩) 0 n] 62)).alloc (.cells (madeCells #[.int .u8 0] 16) 5)) = w4 at *
  generalize w2.heap.size = E at *
  clear hs hsz
  have hW0 : ∀ wx, RowKit.Below B0 W0 wx → (∀ i, i < L.length → wx.cell? ⟨g, o + i, none⟩ = some (.int .u8 (byI L i))) ∧ wx.cell? ⟨0, 0, none⟩ = some (.iface 117 (.pointer (some ead))) := fun wx hx => by
    refine ⟨fun i hi => ?_, ?_⟩
    · rw [hx.cell (show (⟨g, o + i, none⟩ : Addr).block < B0 from hg (by omega)), ← hb.cell (show (⟨g, o + i, none⟩ : Addr).block < B0 from hg (by omega))]; exact hd i hi
    · rw [hx.cell (show (⟨0, 0, none⟩ : Addr).block < B0 from hB0), ← hb.cell (show (⟨0, 0, none⟩ : Addr).block < B0 from hB0)]; exact heof
  replace hW0 := Lib.hid hW0
  clear hd heof hb
  go_loopw [9] (fun _ wr => ∃ k : Nat, 16 * k ≤ L.length ∧ FromData B0 s E (E + 1) (.slice a L.length c) L k W0 wr) (fun _ wr => L.length - (intOf ((wr.cell? ⟨s, 1, none⟩).getD undef)).toNat)
  case atStart => exact ⟨0, by omega, hF⟩
  case round =>
    clear hF
    obtain ⟨k, hk, ⟨vv, hE, hO⟩, ⟨F, hG⟩, hS, kB⟩ := hrel
    have hc := hW0.out wr kB
    by_cases hlt : 16 * k < L.length
    · obtain rfl := hA (by omega)
      clear hA
      go_wp2_with (fail)
      refine (read_some s g o c (E + 1) 16 (16 * k) L F wr (by omega) hL hS hG hc.1 hcap (by omega)).mono ?_
      rintro e w5 ⟨rfl, hS5, hG5, hK5⟩
      have hE5 : w5.rowIs E 62 1 (fun _ => vv) := hE.of_block (hK5.2.2.2.2 E hE.lt (by omega))
      have hO5 : w5.ownsRow B0 69 4 vv k (ents (readL L k)) := own_kept hO hK5 (fun x hx cc hcc => by
        rcases hx with rfl | rfl
        · have := rowIs_block hS
          rw [this] at hcc
          cases hcc
        · have := rowIs_block hG
          rw [this] at hcc
          cases hcc)
      have kB5 : RowKit.Below B0 W0 w5 := hK5.below kB (by have := kB.size; have := hE.lt; omega) (fun x hx => by rcases hx with rfl | rfl <;> omega)
      have hc5 := (hW0.out w5 kB5).2
      have hM0 : wr.cell? ⟨s, 1, none⟩ = some (.int .i64 ((16 * k : Nat) : Int)) := hS.cell (i := 1) (by omega)
      replace hM0 := Lib.hid hM0
      clear hK5 hE hO hG hS kB hc
      have hbuf : BufAt (E + 1) (16 * k) L w5 := fun j hj => hG5.cell hj
      have q8 := fun (v : World) (h : RowKit.Below w5.heap.size w5 v) => (u64_any (E + 1) 16 (16 * k) L v (by omega) (fun j hj => by rw [h.cell (show (⟨E + 1, j, none⟩ : Addr).block < w5.heap.size from hG5.lt)]; exact hbuf j hj)).mono (fun e w' hh => (⟨hh.1, hh.2, h.trans (hh.2.mono h.size)⟩ : _ ∧ RowKit.Below v.heap.size v w' ∧ RowKit.Below w5.heap.size w5 w'))
      have q2 := fun (v : World) (h : RowKit.Below w5.heap.size w5 v) => (u16_any (E + 1) 8 (16 * k) 8 L v (by omega) (fun j hj => by rw [h.cell (show (⟨E + 1, j, none⟩ : Addr).block < w5.heap.size from hG5.lt)]; exact hbuf j hj) (by omega)).mono (fun e w' hh => (⟨hh.1, hh.2, h.trans (hh.2.mono h.size)⟩ : _ ∧ RowKit.Below v.heap.size v w' ∧ RowKit.Below w5.heap.size w5 w'))
      have q3 := fun (v : World) (h : RowKit.Below w5.heap.size w5 v) => (u16_any (E + 1) 6 (16 * k) 10 L v (by omega) (fun j hj => by rw [h.cell (show (⟨E + 1, j, none⟩ : Addr).block < w5.heap.size from hG5.lt)]; exact hbuf j hj) (by omega)).mono (fun e w' hh => (⟨hh.1, hh.2, h.trans (hh.2.mono h.size)⟩ : _ ∧ RowKit.Below v.heap.size v w' ∧ RowKit.Below w5.heap.size w5 w'))
      have q4 := fun (v : World) (h : RowKit.Below w5.heap.size w5 v) => (u32_any (E + 1) 4 (16 * k) L v (by omega) (fun j hj => by rw [h.cell (show (⟨E + 1, j, none⟩ : Addr).block < w5.heap.size from hG5.lt)]; exact hbuf j hj)).mono (fun e w' hh => (⟨hh.1, hh.2, h.trans (hh.2.mono h.size)⟩ : _ ∧ RowKit.Below v.heap.size v w' ∧ RowKit.Below w5.heap.size w5 w'))
      have hAt : enAt L k = (beI L (16 * k) 8, beI L (16 * k + 8) 2, beI L (16 * k + 10) 2, beI L (16 * k + 12) 4) := rfl
      generalize beI L (16 * k) 8 = x0 at *
      generalize beI L (16 * k + 8) 2 = x1 at *
      generalize beI L (16 * k + 10) 2 = x2 at *
      generalize beI L (16 * k + 12) 4 = x3 at *
      replace q8 := Lib.hid q8
      replace q2 := Lib.hid q2
      replace q3 := Lib.hid q3
      replace q4 := Lib.hid q4
      replace hAt := Lib.hid hAt
      have hBd : RowKit.Below w5.heap.size w5 w5.drew := ⟨rfl, rfl, rfl, Nat.le_refl _, fun _ _ => rfl⟩
      have hal : ∀ (v : World) (X : Obj), RowKit.Below w5.heap.size w5 v → RowKit.Below w5.heap.size w5 (v.alloc X) := fun v X h => h.alloc h.size X
      go_upto_region 13 with (fail)
      go_cut [11] from 29 to 61 (fun v wx => ∃ p, v = .pointer (some ⟨p, 0, none⟩) ∧ w5.heap.size ≤ p ∧ wx.rowIs p 69 4 (enF (x0, x1, x2, x3)) ∧ RowKit.Below w5.heap.size w5 wx)
      case first =>
        clear hE5 hO5 hS5 hbuf kB5 hm hmr hW0 hne heq
        refine wp_region_noPanic ?_
        refine wp_region_held_drew (S := fun v => RowKit.Below w5.heap.size w5 v) (by kernel_rfl) hBd (fun hHeld => ?_)
        have hb0' := hBd
        generalize w5.drew = v0 at *
        refine wpAnyH_take (i := 0) (v := ?_) rfl (by kernel_rfl) (by kernel_rfl) (by kernel_rfl) (fun _ _ _ h => h) (Or.inl ⟨by rfl, ?_⟩) (by assumption) ?_
        rotate_left
        · (intro w hSw; go_simp; try with_reducible rfl)
        try simp only [List.getElem_toArray, List.getElem_cons_succ, List.getElem_cons_zero, Act.put, List.setIfInBounds_toArray, List.set_cons_zero, List.set_cons_succ]
        refine wpAnyH_take (i := 1) (v := ?_) rfl (by kernel_rfl) (by kernel_rfl) (by kernel_rfl) (fun _ _ _ h => h) (Or.inl ⟨by rfl, ?_⟩) (by assumption) ?_
        rotate_left
        · (intro w hSw; go_simp; try with_reducible rfl)
        try simp only [List.getElem_toArray, List.getElem_cons_succ, List.getElem_cons_zero, Act.put, List.setIfInBounds_toArray, List.set_cons_zero, List.set_cons_succ]
        refine wpAnyH_take (i := 2) (v := ?_) rfl (by kernel_rfl) (by kernel_rfl) (by kernel_rfl) (fun _ _ _ h => h) (Or.inl ⟨by rfl, ?_⟩) (by assumption) ?_
        rotate_left
        · (intro w hSw; go_simp; try with_reducible rfl)
        try simp only [List.getElem_toArray, List.getElem_cons_succ, List.getElem_cons_zero, Act.put, List.setIfInBounds_toArray, List.set_cons_zero, List.set_cons_succ]
        refine wpAnyH_take (i := 4) (v := ?_) rfl (by kernel_rfl) (by kernel_rfl) (by kernel_rfl) (fun _ _ _ h => h) (Or.inl ⟨by rfl, ?_⟩) (by assumption) ?_
        rotate_left
        · (intro w hSw; go_simp; try with_reducible rfl)
        try simp only [List.getElem_toArray, List.getElem_cons_succ, List.getElem_cons_zero, Act.put, List.setIfInBounds_toArray, List.set_cons_zero, List.set_cons_succ]
        refine wpAnyH_take (i := 5) (v := ?_) rfl (by kernel_rfl) (by kernel_rfl) (by kernel_rfl) (fun _ _ _ h => h) (Or.inl ⟨by rfl, ?_⟩) (by assumption) ?_
        rotate_left
        · (intro w hSw; go_simp; try with_reducible rfl)
        try simp only [List.getElem_toArray, List.getElem_cons_succ, List.getElem_cons_zero, Act.put, List.setIfInBounds_toArray, List.set_cons_zero, List.set_cons_succ]
        refine wpAnyH_take (i := 6) (v := ?_) rfl (by kernel_rfl) (by kernel_rfl) (by kernel_rfl) (fun _ _ _ h => h) (Or.inl ⟨by rfl, ?_⟩) (by assumption) ?_
        rotate_left
        · (intro w hSw; go_simp; try with_reducible rfl)
        try simp only [List.getElem_toArray, List.getElem_cons_succ, List.getElem_cons_zero, Act.put, List.setIfInBounds_toArray, List.set_cons_zero, List.set_cons_succ]
        refine wpAnyH_take (i := 8) (v := ?_) rfl (by kernel_rfl) (by kernel_rfl) (by kernel_rfl) (fun _ _ _ h => h) (Or.inl ⟨by rfl, ?_⟩) (by assumption) ?_
        rotate_left
        · (intro w hSw; go_simp; try with_reducible rfl)
        try simp only [List.getElem_toArray, List.getElem_cons_succ, List.getElem_cons_zero, Act.put, List.setIfInBounds_toArray, List.set_cons_zero, List.set_cons_succ]
        refine wpAnyH_take (i := 9) (v := ?_) rfl (by kernel_rfl) (by kernel_rfl) (by kernel_rfl) (fun _ _ _ h => h) (Or.inl ⟨by rfl, ?_⟩) (by assumption) ?_
        rotate_left
        · (intro w hSw; go_simp; try with_reducible rfl)
        try simp only [List.getElem_toArray, List.getElem_cons_succ, List.getElem_cons_zero, Act.put, List.setIfInBounds_toArray, List.set_cons_zero, List.set_cons_succ]
        refine wpAnyH_take (i := 10) (v := ?_) rfl (by kernel_rfl) (by kernel_rfl) (by kernel_rfl) (fun _ _ _ h => h) (Or.inl ⟨by rfl, ?_⟩) (by assumption) ?_
        rotate_left
        · (intro w hSw; go_simp; try with_reducible rfl)
        try simp only [List.getElem_toArray, List.getElem_cons_succ, List.getElem_cons_zero, Act.put, List.setIfInBounds_toArray, List.set_cons_zero, List.set_cons_succ]
        refine wpAnyH_take (i := 12) (v := ?_) rfl (by kernel_rfl) (by kernel_rfl) (by kernel_rfl) (fun _ _ _ h => h) (Or.inl ⟨by rfl, ?_⟩) (by assumption) ?_
        rotate_left
        · (intro w hSw; go_simp; try with_reducible rfl)
        try simp only [List.getElem_toArray, List.getElem_cons_succ, List.getElem_cons_zero, Act.put, List.setIfInBounds_toArray, List.set_cons_zero, List.set_cons_succ]
        refine wpAnyH_take (i := 13) (v := ?_) rfl (by kernel_rfl) (by kernel_rfl) (by kernel_rfl) (fun _ _ _ h => h) (Or.inl ⟨by rfl, ?_⟩) (by assumption) ?_
        rotate_left
        · (intro w hSw; go_simp; try with_reducible rfl)
        try simp only [List.getElem_toArray, List.getElem_cons_succ, List.getElem_cons_zero, Act.put, List.setIfInBounds_toArray, List.set_cons_zero, List.set_cons_succ]
        refine wpAnyH_take (i := 14) (v := ?_) rfl (by kernel_rfl) (by kernel_rfl) (by kernel_rfl) (fun _ _ _ h => h) (Or.inl ⟨by rfl, ?_⟩) (by assumption) ?_
        rotate_left
        · (intro w hSw; go_simp; try with_reducible rfl)
        try simp only [List.getElem_toArray, List.getElem_cons_succ, List.getElem_cons_zero, Act.put, List.setIfInBounds_toArray, List.set_cons_zero, List.set_cons_succ]
        refine wpAnyH_ready (rs := [3, 17]) (by kernel_rfl) (by simp) ?_
        refine AllReadyH.cons rfl (fun K hK => ?_) (AllReadyH.cons rfl (fun K hK => ?_) AllReadyH.nil)
        · try simp only [List.getElem_toArray, List.getElem_cons_succ, List.getElem_cons_zero, Act.put, List.setIfInBounds_toArray, List.set_cons_zero, List.set_cons_succ]
          go_simp
          refine (q8.out v0 hb0').mono ?_
          rintro e v1 ⟨rfl, hbn, hb1⟩
          clear hbn
          go_wp2_with (fail)
          refine hK.out _ _ hb1 (fun hS => ?_)
          clear hK K
          try simp only [List.getElem_toArray, List.getElem_cons_succ, List.getElem_cons_zero, Act.put, List.setIfInBounds_toArray, List.set_cons_zero, List.set_cons_succ]
          refine wpAnyH_ready (rs := [7, 17]) (by kernel_rfl) (by simp) ?_
          refine AllReadyH.cons rfl (fun K hK => ?_) (AllReadyH.cons rfl (fun K hK => ?_) AllReadyH.nil)
          · try simp only [List.getElem_toArray, List.getElem_cons_succ, List.getElem_cons_zero, Act.put, List.setIfInBounds_toArray, List.set_cons_zero, List.set_cons_succ]
            go_simp
            refine (q2.out v1 hb1).mono ?_
            rintro e v2 ⟨rfl, hbn, hb2⟩
            clear hbn
            go_wp2_with (fail)
            refine hK.out _ _ hb2 (fun hS => ?_)
            clear hK K
            try simp only [List.getElem_toArray, List.getElem_cons_succ, List.getElem_cons_zero, Act.put, List.setIfInBounds_toArray, List.set_cons_zero, List.set_cons_succ]
            refine wpAnyH_ready (rs := [11, 17]) (by kernel_rfl) (by simp) ?_
            refine AllReadyH.cons rfl (fun K hK => ?_) (AllReadyH.cons rfl (fun K hK => ?_) AllReadyH.nil)
            · try simp only [List.getElem_toArray, List.getElem_cons_succ, List.getElem_cons_zero, Act.put, List.setIfInBounds_toArray, List.set_cons_zero, List.set_cons_succ]
              go_simp
              refine (q3.out v2 hb2).mono ?_
              rintro e v3 ⟨rfl, hbn, hb3⟩
              clear hbn
              go_wp2_with (fail)
              refine hK.out _ _ hb3 (fun hS => ?_)
              clear hK K
              try simp only [List.getElem_toArray, List.getElem_cons_succ, List.getElem_cons_zero, Act.put, List.setIfInBounds_toArray, List.set_cons_zero, List.set_cons_succ]
              refine wpAnyH_ready (rs := [15, 17]) (by kernel_rfl) (by simp) ?_
              refine AllReadyH.cons rfl (fun K hK => ?_) (AllReadyH.cons rfl (fun K hK => ?_) AllReadyH.nil)
              · try simp only [List.getElem_toArray, List.getElem_cons_succ, List.getElem_cons_zero, Act.put, List.setIfInBounds_toArray, List.set_cons_zero, List.set_cons_succ]
                go_simp
                refine (q4.out v3 hb3).mono ?_
                rintro e v4 ⟨rfl, hbn, hb4⟩
                clear hbn
                go_wp2_with (fail)
                refine hK.out _ _ hb4 (fun hS => ?_)
                clear hK K
                try simp only [List.getElem_toArray, List.getElem_cons_succ, List.getElem_cons_zero, Act.put, List.setIfInBounds_toArray, List.set_cons_zero, List.set_cons_succ]
                refine wpAnyH_take (i := 16) (v := ?_) rfl (by kernel_rfl) (by kernel_rfl) (by kernel_rfl) (fun _ _ _ h => h) (Or.inl ⟨by rfl, ?_⟩) (by assumption) ?_
                rotate_left
                · (intro w hSw; go_simp; try with_reducible rfl)
                try simp only [List.getElem_toArray, List.getElem_cons_succ, List.getElem_cons_zero, Act.put, List.setIfInBounds_toArray, List.set_cons_zero, List.set_cons_succ]
                refine wpAnyH_ready (rs := [17]) (by kernel_rfl) (by simp) ?_
                refine AllReadyH.cons rfl (fun K hK => ?_) AllReadyH.nil
                try simp only [List.getElem_toArray, List.getElem_cons_succ, List.getElem_cons_zero, Act.put, List.setIfInBounds_toArray, List.set_cons_zero, List.set_cons_succ]
                go_simp
                have zr := row_lit v4 #[.int .u64 0, .int .u16 0, .int .u16 0, .int .u32 0] 69
                have hb5 := hal v4 (.cells #[.int .u64 0, .int .u16 0, .int .u16 0, .int .u32 0] 69) hb4
                have hp := hb4.size
                generalize World.alloc v4 (.cells #[.int .u64 0, .int .u16 0, .int .u16 0, .int .u32 0] 69) = v5 at *
                refine hK.out _ _ hb5 (fun hS => ?_)
                clear hK K
                try simp only [List.getElem_toArray, List.getElem_cons_succ, List.getElem_cons_zero, Act.put, List.setIfInBounds_toArray, List.set_cons_zero, List.set_cons_succ]
                refine wpAnyH_ready (rs := [18]) (by kernel_rfl) (by simp) ?_
                refine AllReadyH.cons rfl (fun K hK => ?_) AllReadyH.nil
                rw [if_pos (by rfl)]
                refine wp_store_mid 69 _ _ rfl (v4.heap.size) 0 #[.int .u64 x0, .int .u16 x1, .int .u16 x2, .int .u32 x3] rfl rfl (rowIs_there zr) (by kernel_rfl) (by simp [Value.oneCell']) ?_
                have zs := (row_store zr #[.int .u64 x0, .int .u16 x1, .int .u16 x2, .int .u32 x3] rfl).congr (g := enF (x0, x1, x2, x3)) (four rfl rfl rfl rfl)
                have hBs := below_setCells hp [.int .u64 x0, .int .u16 x1, .int .u16 x2, .int .u32 x3] 0 _ hb5
                refine hK.out _ _ hBs (fun hS => ?_)
                clear hK K
                try simp only [List.getElem_toArray, List.getElem_cons_succ, List.getElem_cons_zero, Act.put, List.setIfInBounds_toArray, List.set_cons_zero, List.set_cons_succ]
                refine wpAnyH_done (by kernel_rfl) (NoPanic.normal ?_) _
                have hfin := Lib.hid (And.intro hp (And.intro zs hBs))
                go_wp2_with (fail)
                go_meet
                exact ⟨_, rfl, hfin.out.1, hfin.out.2.1, hfin.out.2.2⟩
              · try simp only [List.getElem_toArray, List.getElem_cons_succ, List.getElem_cons_zero, Act.put, List.setIfInBounds_toArray, List.set_cons_zero, List.set_cons_succ]
                go_simp
                have zr := row_lit v3 #[.int .u64 0, .int .u16 0, .int .u16 0, .int .u32 0] 69
                have hb6 := hal v3 (.cells #[.int .u64 0, .int .u16 0, .int .u16 0, .int .u32 0] 69) hb3
                have hp := hb3.size
                generalize World.alloc v3 (.cells #[.int .u64 0, .int .u16 0, .int .u16 0, .int .u32 0] 69) = v6 at *
                refine hK.out _ _ hb6 (fun hS => ?_)
                clear hK K
                try simp only [List.getElem_toArray, List.getElem_cons_succ, List.getElem_cons_zero, Act.put, List.setIfInBounds_toArray, List.set_cons_zero, List.set_cons_succ]
                refine wpAnyH_ready (rs := [15]) (by kernel_rfl) (by simp) ?_
                refine AllReadyH.cons rfl (fun K hK => ?_) AllReadyH.nil
                try simp only [List.getElem_toArray, List.getElem_cons_succ, List.getElem_cons_zero, Act.put, List.setIfInBounds_toArray, List.set_cons_zero, List.set_cons_succ]
                go_simp
                refine (q4.out v6 hb6).mono ?_
                rintro e v7 ⟨rfl, hbn, hb7⟩
                have zr := rowIs_below zr hbn zr.lt
                clear hbn
                go_wp2_with (fail)
                refine hK.out _ _ hb7 (fun hS => ?_)
                clear hK K
                try simp only [List.getElem_toArray, List.getElem_cons_succ, List.getElem_cons_zero, Act.put, List.setIfInBounds_toArray, List.set_cons_zero, List.set_cons_succ]
                refine wpAnyH_take (i := 16) (v := ?_) rfl (by kernel_rfl) (by kernel_rfl) (by kernel_rfl) (fun _ _ _ h => h) (Or.inl ⟨by rfl, ?_⟩) (by assumption) ?_
                rotate_left
                · (intro w hSw; go_simp; try with_reducible rfl)
                try simp only [List.getElem_toArray, List.getElem_cons_succ, List.getElem_cons_zero, Act.put, List.setIfInBounds_toArray, List.set_cons_zero, List.set_cons_succ]
                refine wpAnyH_ready (rs := [18]) (by kernel_rfl) (by simp) ?_
                refine AllReadyH.cons rfl (fun K hK => ?_) AllReadyH.nil
                rw [if_pos (by rfl)]
                refine wp_store_mid 69 _ _ rfl (v3.heap.size) 0 #[.int .u64 x0, .int .u16 x1, .int .u16 x2, .int .u32 x3] rfl rfl (rowIs_there zr) (by kernel_rfl) (by simp [Value.oneCell']) ?_
                have zs := (row_store zr #[.int .u64 x0, .int .u16 x1, .int .u16 x2, .int .u32 x3] rfl).congr (g := enF (x0, x1, x2, x3)) (four rfl rfl rfl rfl)
                have hBs := below_setCells hp [.int .u64 x0, .int .u16 x1, .int .u16 x2, .int .u32 x3] 0 _ hb7
                refine hK.out _ _ hBs (fun hS => ?_)
                clear hK K
                try simp only [List.getElem_toArray, List.getElem_cons_succ, List.getElem_cons_zero, Act.put, List.setIfInBounds_toArray, List.set_cons_zero, List.set_cons_succ]
                refine wpAnyH_done (by kernel_rfl) (NoPanic.normal ?_) _
                have hfin := Lib.hid (And.intro hp (And.intro zs hBs))
                go_wp2_with (fail)
                go_meet
                exact ⟨_, rfl, hfin.out.1, hfin.out.2.1, hfin.out.2.2⟩
            · try simp only [List.getElem_toArray, List.getElem_cons_succ, List.getElem_cons_zero, Act.put, List.setIfInBounds_toArray, List.set_cons_zero, List.set_cons_succ]
              go_simp
              have zr := row_lit v2 #[.int .u64 0, .int .u16 0, .int .u16 0, .int .u32 0] 69
              have hb8 := hal v2 (.cells #[.int .u64 0, .int .u16 0, .int .u16 0, .int .u32 0] 69) hb2
              have hp := hb2.size
              generalize World.alloc v2 (.cells #[.int .u64 0, .int .u16 0, .int .u16 0, .int .u32 0] 69) = v8 at *
              refine hK.out _ _ hb8 (fun hS => ?_)
              clear hK K
              try simp only [List.getElem_toArray, List.getElem_cons_succ, List.getElem_cons_zero, Act.put, List.setIfInBounds_toArray, List.set_cons_zero, List.set_cons_succ]
              refine wpAnyH_ready (rs := [11]) (by kernel_rfl) (by simp) ?_
              refine AllReadyH.cons rfl (fun K hK => ?_) AllReadyH.nil
              try simp only [List.getElem_toArray, List.getElem_cons_succ, List.getElem_cons_zero, Act.put, List.setIfInBounds_toArray, List.set_cons_zero, List.set_cons_succ]
              go_simp
              refine (q3.out v8 hb8).mono ?_
              rintro e v9 ⟨rfl, hbn, hb9⟩
              have zr := rowIs_below zr hbn zr.lt
              clear hbn
              go_wp2_with (fail)
              refine hK.out _ _ hb9 (fun hS => ?_)
              clear hK K
              try simp only [List.getElem_toArray, List.getElem_cons_succ, List.getElem_cons_zero, Act.put, List.setIfInBounds_toArray, List.set_cons_zero, List.set_cons_succ]
              refine wpAnyH_ready (rs := [15]) (by kernel_rfl) (by simp) ?_
              refine AllReadyH.cons rfl (fun K hK => ?_) AllReadyH.nil
              try simp only [List.getElem_toArray, List.getElem_cons_succ, List.getElem_cons_zero, Act.put, List.setIfInBounds_toArray, List.set_cons_zero, List.set_cons_succ]
              go_simp
              refine (q4.out v9 hb9).mono ?_
              rintro e v10 ⟨rfl, hbn, hb10⟩
              have zr := rowIs_below zr hbn zr.lt
              clear hbn
              go_wp2_with (fail)
              refine hK.out _ _ hb10 (fun hS => ?_)
              clear hK K
              try simp only [List.getElem_toArray, List.getElem_cons_succ, List.getElem_cons_zero, Act.put, List.setIfInBounds_toArray, List.set_cons_zero, List.set_cons_succ]
              refine wpAnyH_take (i := 16) (v := ?_) rfl (by kernel_rfl) (by kernel_rfl) (by kernel_rfl) (fun _ _ _ h => h) (Or.inl ⟨by rfl, ?_⟩) (by assumption) ?_
              rotate_left
              · (intro w hSw; go_simp; try with_reducible rfl)
              try simp only [List.getElem_toArray, List.getElem_cons_succ, List.getElem_cons_zero, Act.put, List.setIfInBounds_toArray, List.set_cons_zero, List.set_cons_succ]
              refine wpAnyH_ready (rs := [18]) (by kernel_rfl) (by simp) ?_
              refine AllReadyH.cons rfl (fun K hK => ?_) AllReadyH.nil
              rw [if_pos (by rfl)]
              refine wp_store_mid 69 _ _ rfl (v2.heap.size) 0 #[.int .u64 x0, .int .u16 x1, .int .u16 x2, .int .u32 x3] rfl rfl (rowIs_there zr) (by kernel_rfl) (by simp [Value.oneCell']) ?_
              have zs := (row_store zr #[.int .u64 x0, .int .u16 x1, .int .u16 x2, .int .u32 x3] rfl).congr (g := enF (x0, x1, x2, x3)) (four rfl rfl rfl rfl)
              have hBs := below_setCells hp [.int .u64 x0, .int .u16 x1, .int .u16 x2, .int .u32 x3] 0 _ hb10
              refine hK.out _ _ hBs (fun hS => ?_)
              clear hK K
              try simp only [List.getElem_toArray, List.getElem_cons_succ, List.getElem_cons_zero, Act.put, List.setIfInBounds_toArray, List.set_cons_zero, List.set_cons_succ]
              refine wpAnyH_done (by kernel_rfl) (NoPanic.normal ?_) _
              have hfin := Lib.hid (And.intro hp (And.intro zs hBs))
              go_wp2_with (fail)
              go_meet
              exact ⟨_, rfl, hfin.out.1, hfin.out.2.1, hfin.out.2.2⟩
          · try simp only [List.getElem_toArray, List.getElem_cons_succ, List.getElem_cons_zero, Act.put, List.setIfInBounds_toArray, List.set_cons_zero, List.set_cons_succ]
            go_simp
            have zr := row_lit v1 #[.int .u64 0, .int .u16 0, .int .u16 0, .int .u32 0] 69
            have hb11 := hal v1 (.cells #[.int .u64 0, .int .u16 0, .int .u16 0, .int .u32 0] 69) hb1
            have hp := hb1.size
            generalize World.alloc v1 (.cells #[.int .u64 0, .int .u16 0, .int .u16 0, .int .u32 0] 69) = v11 at *
            refine hK.out _ _ hb11 (fun hS => ?_)
            clear hK K
            try simp only [List.getElem_toArray, List.getElem_cons_succ, List.getElem_cons_zero, Act.put, List.setIfInBounds_toArray, List.set_cons_zero, List.set_cons_succ]
            refine wpAnyH_ready (rs := [7]) (by kernel_rfl) (by simp) ?_
            refine AllReadyH.cons rfl (fun K hK => ?_) AllReadyH.nil
            try simp only [List.getElem_toArray, List.getElem_cons_succ, List.getElem_cons_zero, Act.put, List.setIfInBounds_toArray, List.set_cons_zero, List.set_cons_succ]
            go_simp
            refine (q2.out v11 hb11).mono ?_
            rintro e v12 ⟨rfl, hbn, hb12⟩
            have zr := rowIs_below zr hbn zr.lt
            clear hbn
            go_wp2_with (fail)
            refine hK.out _ _ hb12 (fun hS => ?_)
            clear hK K
            try simp only [List.getElem_toArray, List.getElem_cons_succ, List.getElem_cons_zero, Act.put, List.setIfInBounds_toArray, List.set_cons_zero, List.set_cons_succ]
            refine wpAnyH_ready (rs := [11]) (by kernel_rfl) (by simp) ?_
            refine AllReadyH.cons rfl (fun K hK => ?_) AllReadyH.nil
            try simp only [List.getElem_toArray, List.getElem_cons_succ, List.getElem_cons_zero, Act.put, List.setIfInBounds_toArray, List.set_cons_zero, List.set_cons_succ]
            go_simp
            refine (q3.out v12 hb12).mono ?_
            rintro e v13 ⟨rfl, hbn, hb13⟩
            have zr := rowIs_below zr hbn zr.lt
            clear hbn
            go_wp2_with (fail)
            refine hK.out _ _ hb13 (fun hS => ?_)
            clear hK K
            try simp only [List.getElem_toArray, List.getElem_cons_succ, List.getElem_cons_zero, Act.put, List.setIfInBounds_toArray, List.set_cons_zero, List.set_cons_succ]
            refine wpAnyH_ready (rs := [15]) (by kernel_rfl) (by simp) ?_
            refine AllReadyH.cons rfl (fun K hK => ?_) AllReadyH.nil
            try simp only [List.getElem_toArray, List.getElem_cons_succ, List.getElem_cons_zero, Act.put, List.setIfInBounds_toArray, List.set_cons_zero, List.set_cons_succ]
            go_simp
            refine (q4.out v13 hb13).mono ?_
            rintro e v14 ⟨rfl, hbn, hb14⟩
            have zr := rowIs_below zr hbn zr.lt
            clear hbn
            go_wp2_with (fail)
            refine hK.out _ _ hb14 (fun hS => ?_)
            clear hK K
            try simp only [List.getElem_toArray, List.getElem_cons_succ, List.getElem_cons_zero, Act.put, List.setIfInBounds_toArray, List.set_cons_zero, List.set_cons_succ]
            refine wpAnyH_take (i := 16) (v := ?_) rfl (by kernel_rfl) (by kernel_rfl) (by kernel_rfl) (fun _ _ _ h => h) (Or.inl ⟨by rfl, ?_⟩) (by assumption) ?_
            rotate_left
            · (intro w hSw; go_simp; try with_reducible rfl)
            try simp only [List.getElem_toArray, List.getElem_cons_succ, List.getElem_cons_zero, Act.put, List.setIfInBounds_toArray, List.set_cons_zero, List.set_cons_succ]
            refine wpAnyH_ready (rs := [18]) (by kernel_rfl) (by simp) ?_
            refine AllReadyH.cons rfl (fun K hK => ?_) AllReadyH.nil
            rw [if_pos (by rfl)]
            refine wp_store_mid 69 _ _ rfl (v1.heap.size) 0 #[.int .u64 x0, .int .u16 x1, .int .u16 x2, .int .u32 x3] rfl rfl (rowIs_there zr) (by kernel_rfl) (by simp [Value.oneCell']) ?_
            have zs := (row_store zr #[.int .u64 x0, .int .u16 x1, .int .u16 x2, .int .u32 x3] rfl).congr (g := enF (x0, x1, x2, x3)) (four rfl rfl rfl rfl)
            have hBs := below_setCells hp [.int .u64 x0, .int .u16 x1, .int .u16 x2, .int .u32 x3] 0 _ hb14
            refine hK.out _ _ hBs (fun hS => ?_)
            clear hK K
            try simp only [List.getElem_toArray, List.getElem_cons_succ, List.getElem_cons_zero, Act.put, List.setIfInBounds_toArray, List.set_cons_zero, List.set_cons_succ]
            refine wpAnyH_done (by kernel_rfl) (NoPanic.normal ?_) _
            have hfin := Lib.hid (And.intro hp (And.intro zs hBs))
            go_wp2_with (fail)
            go_meet
            exact ⟨_, rfl, hfin.out.1, hfin.out.2.1, hfin.out.2.2⟩
        · try simp only [List.getElem_toArray, List.getElem_cons_succ, List.getElem_cons_zero, Act.put, List.setIfInBounds_toArray, List.set_cons_zero, List.set_cons_succ]
          go_simp
          have zr := row_lit v0 #[.int .u64 0, .int .u16 0, .int .u16 0, .int .u32 0] 69
          have hb15 := hal v0 (.cells #[.int .u64 0, .int .u16 0, .int .u16 0, .int .u32 0] 69) hb0'
          have hp := hb0'.size
          generalize World.alloc v0 (.cells #[.int .u64 0, .int .u16 0, .int .u16 0, .int .u32 0] 69) = v15 at *
          refine hK.out _ _ hb15 (fun hS => ?_)
          clear hK K
          try simp only [List.getElem_toArray, List.getElem_cons_succ, List.getElem_cons_zero, Act.put, List.setIfInBounds_toArray, List.set_cons_zero, List.set_cons_succ]
          refine wpAnyH_ready (rs := [3]) (by kernel_rfl) (by simp) ?_
          refine AllReadyH.cons rfl (fun K hK => ?_) AllReadyH.nil
          try simp only [List.getElem_toArray, List.getElem_cons_succ, List.getElem_cons_zero, Act.put, List.setIfInBounds_toArray, List.set_cons_zero, List.set_cons_succ]
          go_simp
          refine (q8.out v15 hb15).mono ?_
          rintro e v16 ⟨rfl, hbn, hb16⟩
          have zr := rowIs_below zr hbn zr.lt
          clear hbn
          go_wp2_with (fail)
          refine hK.out _ _ hb16 (fun hS => ?_)
          clear hK K
          try simp only [List.getElem_toArray, List.getElem_cons_succ, List.getElem_cons_zero, Act.put, List.setIfInBounds_toArray, List.set_cons_zero, List.set_cons_succ]
          refine wpAnyH_ready (rs := [7]) (by kernel_rfl) (by simp) ?_
          refine AllReadyH.cons rfl (fun K hK => ?_) AllReadyH.nil
          try simp only [List.getElem_toArray, List.getElem_cons_succ, List.getElem_cons_zero, Act.put, List.setIfInBounds_toArray, List.set_cons_zero, List.set_cons_succ]
          go_simp
          refine (q2.out v16 hb16).mono ?_
          rintro e v17 ⟨rfl, hbn, hb17⟩
          have zr := rowIs_below zr hbn zr.lt
          clear hbn
          go_wp2_with (fail)
          refine hK.out _ _ hb17 (fun hS => ?_)
          clear hK K
          try simp only [List.getElem_toArray, List.getElem_cons_succ, List.getElem_cons_zero, Act.put, List.setIfInBounds_toArray, List.set_cons_zero, List.set_cons_succ]
          refine wpAnyH_ready (rs := [11]) (by kernel_rfl) (by simp) ?_
          refine AllReadyH.cons rfl (fun K hK => ?_) AllReadyH.nil
          try simp only [List.getElem_toArray, List.getElem_cons_succ, List.getElem_cons_zero, Act.put, List.setIfInBounds_toArray, List.set_cons_zero, List.set_cons_succ]
          go_simp
          refine (q3.out v17 hb17).mono ?_
          rintro e v18 ⟨rfl, hbn, hb18⟩
          have zr := rowIs_below zr hbn zr.lt
          clear hbn
          go_wp2_with (fail)
          refine hK.out _ _ hb18 (fun hS => ?_)
          clear hK K
          try simp only [List.getElem_toArray, List.getElem_cons_succ, List.getElem_cons_zero, Act.put, List.setIfInBounds_toArray, List.set_cons_zero, List.set_cons_succ]
          refine wpAnyH_ready (rs := [15]) (by kernel_rfl) (by simp) ?_
          refine AllReadyH.cons rfl (fun K hK => ?_) AllReadyH.nil
          try simp only [List.getElem_toArray, List.getElem_cons_succ, List.getElem_cons_zero, Act.put, List.setIfInBounds_toArray, List.set_cons_zero, List.set_cons_succ]
          go_simp
          refine (q4.out v18 hb18).mono ?_
          rintro e v19 ⟨rfl, hbn, hb19⟩
          have zr := rowIs_below zr hbn zr.lt
          clear hbn
          go_wp2_with (fail)
          refine hK.out _ _ hb19 (fun hS => ?_)
          clear hK K
          try simp only [List.getElem_toArray, List.getElem_cons_succ, List.getElem_cons_zero, Act.put, List.setIfInBounds_toArray, List.set_cons_zero, List.set_cons_succ]
          refine wpAnyH_take (i := 16) (v := ?_) rfl (by kernel_rfl) (by kernel_rfl) (by kernel_rfl) (fun _ _ _ h => h) (Or.inl ⟨by rfl, ?_⟩) (by assumption) ?_
          rotate_left
          · (intro w hSw; go_simp; try with_reducible rfl)
          try simp only [List.getElem_toArray, List.getElem_cons_succ, List.getElem_cons_zero, Act.put, List.setIfInBounds_toArray, List.set_cons_zero, List.set_cons_succ]
          refine wpAnyH_ready (rs := [18]) (by kernel_rfl) (by simp) ?_
          refine AllReadyH.cons rfl (fun K hK => ?_) AllReadyH.nil
          rw [if_pos (by rfl)]
          refine wp_store_mid 69 _ _ rfl (v0.heap.size) 0 #[.int .u64 x0, .int .u16 x1, .int .u16 x2, .int .u32 x3] rfl rfl (rowIs_there zr) (by kernel_rfl) (by simp [Value.oneCell']) ?_
          have zs := (row_store zr #[.int .u64 x0, .int .u16 x1, .int .u16 x2, .int .u32 x3] rfl).congr (g := enF (x0, x1, x2, x3)) (four rfl rfl rfl rfl)
          have hBs := below_setCells hp [.int .u64 x0, .int .u16 x1, .int .u16 x2, .int .u32 x3] 0 _ hb19
          refine hK.out _ _ hBs (fun hS => ?_)
          clear hK K
          try simp only [List.getElem_toArray, List.getElem_cons_succ, List.getElem_cons_zero, Act.put, List.setIfInBounds_toArray, List.set_cons_zero, List.set_cons_succ]
          refine wpAnyH_done (by kernel_rfl) (NoPanic.normal ?_) _
          have hfin := Lib.hid (And.intro hp (And.intro zs hBs))
          go_wp2_with (fail)
          go_meet
          exact ⟨_, rfl, hfin.out.1, hfin.out.2.1, hfin.out.2.2⟩
      case rest =>
        obtain ⟨p, rfl, hp, hP, hBx⟩ := hcut
        have hE6 := rowIs_below hE5 hBx hE5.lt
        have hG6 := rowIs_below hG5 hBx hG5.lt
        have hS6 := rowIs_below hS5 hBx hS5.lt
        have hO6 := own_below hO5 hBx
        have kB6 := kB5.trans (hBx.mono (show B0 ≤ w5.heap.size by have := hE5.lt; omega))
        have hBc : B0 ≤ wc.heap.size := by have := hE6.lt; omega
        have hBr := RowKit.Below.refl B0 wc
        have z0 : wc.cell? ⟨p, 0, none⟩ = some (.int .u64 x0) := hP.cell (i := 0) (by omega)
        have z1 : wc.cell? ⟨p, 1, none⟩ = some (.int .u16 x1) := hP.cell (i := 1) (by omega)
        have z2 : wc.cell? ⟨p, 2, none⟩ = some (.int .u16 x2) := hP.cell (i := 2) (by omega)
        have z3 : wc.cell? ⟨p, 3, none⟩ = some (.int .u32 x3) := hP.cell (i := 3) (by omega)
        have y0 : wc.cell? ⟨E, 0, none⟩ = some vv := hE6.cell (i := 0) (by omega)
        have yf := hE6.frozen 0
        have hone := one_enc (x0, x1, x2, x3)
        unfold encE at hone
        have hk2 : k < 1000000000 := by omega
        have hx : ∀ (v : Value) (wz : World), wz.ownsRow B0 69 4 v (k + 1) (ents (readL L k) ++ [.int .u64 x0, .int .u16 x1, .int .u16 x2, .int .u32 x3]) → wz.ownsRow B0 69 4 v (k + 1) (ents (readL L (k + 1))) := fun v wz h => by
          rw [readL_succ, ents_app, hAt.out]; exact h
        replace hx := Lib.hid hx
        clear hE5 hO5 hS5 hG5 kB5 hBx hP hBd hal hbuf q8 q2 q3 q4
        obtain ⟨vs, vl, vc, hvv⟩ : ∃ a n c, vv = .slice a n c := by
          rcases hO6.2 with ⟨hv, _⟩ | ⟨_, _, _, hv, _⟩ <;> exact ⟨_, _, _, hv⟩
        subst hvv
        have bE := rowIs_block hE6
        have bG := rowIs_block hG6
        have bS := rowIs_block hS6
        have lE := hE6.lt
        go_wp2_with (at_builtin; go_loud (refine wpList_app2 rfl _ _ 62 rfl B0 69 (.agg #[.int .u64 0, .int .u16 0, .int .u16 0, .int .u32 0]) 4 16 Tryz.underlying62 infoPe rfl (by decide) _ k (ents (readL L k)) rfl hO6 hBc [.int .u64 x0, .int .u16 x1, .int .u16 x2, .int .u32 x3] hone rfl _ rfl rfl hk2 (by decide) ?_; intro va vn vcc w7 hown7 hb7 hkp; have hown8 := Lib.hid (hx.out _ _ hown7); have tE := rowIs_of_block (hkp E _ _ bE (by decide)); have tG := rowIs_of_block (hkp (E + 1) _ _ bG (by decide)); have tS := rowIs_of_block (hkp s _ _ bS (by decide)); have tB := kB6.trans hb7; clear hown7 hb7 hkp hO6 hx hone kB6 bE bG bS hE6 hG6 hS6; have yv := tE.cell (i := 0) (by omega); have yw := tE.frozen 0; clear y0 yf z0 z1 z2 z3; have nE := Lib.hid ((tE.set 0 (.slice va vn vcc)).congr (g := fun _ => .slice va vn vcc) (fun j hj => by (obtain rfl : j = 0 := by omega); simp)); have nG := Lib.hid (tG.setOther (a := ⟨E, 0, none⟩) (by simp) (.slice va vn vcc)); have nS := Lib.hid (tS.setOther (a := ⟨E, 0, none⟩) (by simp; omega) (.slice va vn vcc)); have nB := Lib.hid (tB.setCell (p := ⟨E, 0, none⟩) hBE (.slice va vn vcc)); have nO := Lib.hid (own_kept (p := fun q => q = E) hown8.out (⟨rfl, rfl, rfl, by simp, fun q hq hne => Below.heap_setCell _ _ _ _ (by simpa using hne)⟩ : KeptBut (fun q => q = E) w7 (w7.setCell ⟨E, 0, none⟩ (.slice va vn vcc))) (fun q hq cc hcc => by (have := rowIs_block tE); (rw [hq] at hcc); (rw [this] at hcc); cases hcc)); clear tE tG tS tB))
        have hM1 : (w7.setCell ⟨E, 0, none⟩ (.slice va vn vcc)).cell? ⟨s, 1, none⟩ = some (.int .i64 ((16 * k + 16 : Nat) : Int)) := nS.out.cell (i := 1) (by omega)
        refine ⟨⟨k + 1, by omega, ⟨_, nE.out, nO.out⟩, ⟨_, nG.out⟩, ?_, nB.out⟩, ?_⟩
        · rw [show 16 * (k + 1) = 16 * k + 16 by omega]; exact nS.out
        · rw [hM1, hM0.out]
          simp only [Option.getD_some, intOf]
          omega
    · have hkn : 16 * k = L.length := by omega
      obtain rfl : k = n := by omega
      rw [hkn] at hS
      go_wp2_with (fail)
      refine (read_end s a L.length c (E + 1) 16 wr _ hc.2 hS hL).mono ?_
      rintro e w5 ⟨rfl, hb5⟩
      have hE5 := rowIs_below hE hb5 hE.lt
      have hO5 := own_below hO hb5
      have lE := hE.lt
      have kB5 := kB.trans (hb5.mono (show B0 ≤ wr.heap.size by omega))
      have hc5 := (hW0.out w5 kB5).2
      have hlen := readL_len L k
      have hsort := Lib.hid (sortOwn_K B0 E vv (readL L k) W0 w5 (by rw [hlen]; exact hO5) hE5 (by omega) kB5 (by have := hE5.lt; omega))
      have y0 : w5.cell? ⟨E, 0, none⟩ = some vv := hE5.cell (i := 0) (by omega)
      obtain ⟨vs, vl, vc, hvv⟩ : ∃ a n c, vv = .slice a n c := by
        rcases hO5.2 with ⟨hv, _⟩ | ⟨_, _, _, hv, _⟩ <;> exact ⟨_, _, _, hv⟩
      subst hvv
      clear hE hO hG hS kB hc hb5 hE5 hO5 kB5 hlen
      go_wp2_with (fail)
      refine hsort.out.mono ?_
      rintro e w6 ⟨rfl, l', hp, hso, hEn, hE6, hB6, hO6⟩
      have z0 : w6.cell? ⟨E, 0, none⟩ = some (.slice vs vl vc) := hE6.cell (i := 0) (by omega)
      have hsz6 : B0 ≤ w6.heap.size := by have := hE6.lt; omega
      have hfin := Lib.hid (And.intro hp (And.intro hso (And.intro hEn (And.intro hB6 hO6))))
      clear hp hso hEn hE6 hB6 hO6 hsort y0 hc5
      go_wp2_with (fail)
      go_ret2
      refine ⟨w6.heap.size, .slice vs vl vc, l', rfl, hsz6, by simp, ?_, hfin.out.2.2.1.below ((RowKit.Below.refl _ _).alloc (Nat.le_refl _) _), hfin.out.1, hfin.out.2.1, hfin.out.2.2.2.1.alloc hsz6 _, ?_, hfin.out.2.2.2.2.alloc _⟩
      · exact (row_lit w6 #[.slice vs vl vc] _).cell (i := 0) (by simp)
      · exact (row_lit w6 #[.slice vs vl vc] 71).congr (g := fun _ => .slice vs vl vc) (fun j hj => by (have hj : j < 1 := hj); (obtain rfl : j = 0 := by omega); rfl)
end Go.Proofs.YtpoomblloahahaaGreatDoor

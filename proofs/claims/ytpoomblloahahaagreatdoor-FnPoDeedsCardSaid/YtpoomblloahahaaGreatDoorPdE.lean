/- Deeds to a book: the thin package's function. -/
import Derived.Test.YtpoomblloahahaaGreatDoorPdD
namespace Go.Proofs.YtpoomblloahahaaGreatDoor
open Go.Proofs Go.Shelf Go.Sort Go.Lib Go.ChangeShapes Go.WideShapes Go.ChangeAt Go.RowKit Go.PlainAid
set_option maxHeartbeats 4000000
set_option linter.unusedVariables false
set_option linter.unusedSimpArgs false

theorem clo_BookDeeds (p0 p1 p2 : Addr) (w : World) :
    CallsD Tryz.prog 7 #[.pointer (some p0), .pointer (some p1), .pointer (some p2)] .returning w fun e u' w' => e = .returned (.tuple #[]) ∧ u' = .returning ∧ w' = w := by
  refine callsD_of_wpS Tryz.func7 rfl fun c₀ cs hu => ?_
  apply wpS_seq
  apply wpS_region
  simp [wpOpsS, go_sem, recoverD, hu, Tryz.ntmps7, Exit.thenS]
  refine wpS_cond (t := false) (by simp [Act.eval, Array.replicate]) ?_
  simp only [Bool.false_eq_true, if_false]
  refine wpS_of_wp (wp_skip ?_)
  cases c₀
  simp_all [bodyPostS, results, Tryz.results7]

def laidD (w : World) : World := ((w.alloc (.cells #[.slice none 0 0] 24)).alloc (.cells #[.slice none 0 0] 31)).alloc (.cells #[.bool false] 4)
theorem laidD_facts (w : World) : (laidD w).heap.size = w.heap.size + 3 ∧ (laidD w).rowIs w.heap.size 24 1 (fun _ => .slice none 0 0) ∧ (laidD w).rowIs (w.heap.size + 1) 31 1 (fun _ => .slice none 0 0) ∧ (laidD w).rowIs (w.heap.size + 1 + 1) 4 1 (fun _ => .bool false) ∧ RowKit.Below w.heap.size w (laidD w) := by
  have hone : ∀ (v : World) (t : TypeId) (x : Value), (v.alloc (.cells #[x] t)).rowIs v.heap.size t 1 (fun _ => x) := fun v t x => World.rowIs_alloc v #[x] t (fun _ => x) (fun i hi => by obtain rfl : i = 0 := (by simp at hi; omega); rfl)
  have h1 := hone w 24 (.slice none 0 0)
  have h2 := hone (w.alloc (.cells #[.slice none 0 0] 24)) 31 (.slice none 0 0)
  have h3 := hone ((w.alloc (.cells #[.slice none 0 0] 24)).alloc (.cells #[.slice none 0 0] 31)) 4 (.bool false)
  rw [World.size_alloc] at h2
  rw [World.size_alloc, World.size_alloc] at h3
  exact ⟨by simp [laidD], (h1.alloc _).alloc _, h2.alloc _, h3, (((RowKit.Below.refl _ _).alloc (Nat.le_refl _) _).alloc (by simp) _).alloc (by simp; omega) _⟩
/-- What the walk keeps from deed to deed. -/
structure DeedR (w : World) (pb B0 : Nat) (m : List En) (bs : List Bool) (wr : World) : Prop where
  bk : ∃ l : List En, l.Perm m ∧ Bk pb B0 l wr
  r1 : wr.rowIs w.heap.size 24 1 (fun _ => .slice none 0 0)
  r2 : ∃ x, wr.rowIs (w.heap.size + 1) 31 1 (fun _ => x) ∧ wr.ownsRow B0 4 1 x bs.length (boolsV bs)
  r3 : wr.rowIs (w.heap.size + 1 + 1) 4 1 (fun _ => .bool false)
  bl : RowKit.Below w.heap.size w wr
theorem DeedR.below {w : World} {pb B0 : Nat} {m : List En} {bs : List Bool} {wr w' : World} (h : DeedR w pb B0 m bs wr) (hb : RowKit.Below wr.heap.size wr w') : DeedR w pb B0 m bs w' := by
  obtain ⟨⟨l, hp, hB⟩, h1, ⟨x, h2, h3⟩, h4, h5⟩ := h
  exact ⟨⟨l, hp, hB.below hb⟩, rowIs_below h1 hb h1.lt, ⟨x, rowIs_below h2 hb h2.lt, own_below h3 hb⟩, rowIs_below h4 hb h4.lt, h5.trans (hb.mono h5.size)⟩
/-- A deed is done: the book is another. -/
theorem DeedR.turn {w : World} {pb B0 : Nat} {m m' : List En} {bs : List Bool} {wr w' : World} (h : DeedR w pb B0 m bs wr) {l' : List En} (hp : l'.Perm m') (hB : Bk pb B0 l' w') (hb : RowKit.Below B0 wr w') (hk : KeptT wr w') (hB0 : w.heap.size + 3 ≤ B0) : DeedR w pb B0 m' bs w' := by
  obtain ⟨_, h1, ⟨x, h2, h3⟩, h4, h5⟩ := h
  exact ⟨⟨l', hp, hB⟩, hk.row h1 (by decide) (by decide), ⟨x, hk.row h2 (by decide) (by decide), hk.own h3 (by decide) (by decide)⟩, hk.row h4 (by decide) (by decide), h5.trans (hb.mono (by omega))⟩
/-- Whether a deed was done is put down. -/
theorem DeedR.push {w : World} {pb B0 : Nat} {m : List En} {bs : List Bool} {b : Bool} {wr w7 : World} {va : Option Addr} {vn vc : Nat} (h : DeedR w pb B0 m bs wr) (hB0 : B0 = w.heap.size + 3) (ho : w7.ownsRow B0 4 1 (.slice va vn vc) (bs.length + 1) (boolsV bs ++ [.bool b])) (hb : RowKit.Below B0 wr w7) (hk : KeptX 4 wr w7) :
    w7.frozen? ⟨w.heap.size + 1, 0, none⟩ = false ∧ (∃ z, w7.cell? ⟨w.heap.size + 1, 0, none⟩ = some z) ∧ DeedR w pb B0 m (bs ++ [b]) (w7.setCell ⟨w.heap.size + 1, 0, none⟩ (.slice va vn vc)) := by
  obtain ⟨⟨l, hp, hB⟩, h1, ⟨x, h2, h3⟩, h4, h5⟩ := h
  have g1 : w7.rowIs w.heap.size 24 1 (fun _ => .slice none 0 0) := hk.row h1 (by decide)
  have g2 : w7.rowIs (w.heap.size + 1) 31 1 (fun _ => x) := hk.row h2 (by decide)
  have g4 := h4.of_block (hb.block _ (by omega))
  have hkb := hB.keptX hk (by decide) (by decide)
  have hs2 := keptX_set g2 0 (.slice va vn vc)
  refine ⟨g2.frozen 0, ⟨_, g2.cell (i := 0) (by omega)⟩, ⟨l, hp, hkb.keptX hs2 (by decide) (by decide)⟩, hs2.row g1 (by decide), ⟨_, (g2.set 0 (.slice va vn vc)).congr (g := fun _ => .slice va vn vc) (fun j hj => by (obtain rfl : j = 0 := by omega); simp), ?_⟩, g4.setOther (by simp) _, (h5.trans (hb.mono (by omega))).setCell (by simp) _⟩
  have h6 := hs2.own ho (by decide)
  rw [show (bs ++ [b]).length = bs.length + 1 by simp, show boolsV (bs ++ [b]) = boolsV bs ++ [.bool b] by simp [boolsV]]
  exact h6
theorem nil_ne (t : TypeId) (ad : Addr) : ∀ w : World, (binOp .eql 44 (.iface t (.pointer (some ad))) .nilIface).run Tryz.prog w = .ok (.bool false) w := fun w => by
  have h : ∀ d : Nat, (Op.equalIn (d + 1) 44 (.iface t (.pointer (some ad))) .nilIface).run Tryz.prog w = .ok false w := fun d => by simp [Op.equalIn, run_underlying Tryz.underlying44]
  simp only [binOp]
  simp [Op.equal, Op.maxDepth, h 9999]
/-- The entry variable's cells that the walk reads. -/
def VarD (E : Nat) (d : Dd) (v : World) : Prop := v.rowIs E 35 6 (ddF d)
theorem VarD.cells {E : Nat} {d : Dd} {v : World} (h : VarD E d v) : v.cell? ⟨E, 0, none⟩ = some (.int .i64 d.1) ∧ v.cell? ⟨E, 1, none⟩ = some (.int .u64 d.2.1) ∧ v.cell? ⟨E, 2, none⟩ = some (.int .i64 d.2.2.1) ∧ v.cell? ⟨E, 3, none⟩ = some (.int .i64 d.2.2.2.1) ∧ v.cell? ⟨E, 4, none⟩ = some (.int .i64 d.2.2.2.2.1) ∧ v.cell? ⟨E, 5, none⟩ = some (.int .u16 d.2.2.2.2.2) :=
  ⟨h.cell (i := 0) (by omega), h.cell (i := 1) (by omega), h.cell (i := 2) (by omega), h.cell (i := 3) (by omega), h.cell (i := 4) (by omega), h.cell (i := 5) (by omega)⟩
theorem doorEntries_any (pb : Nat) (v : Value) (W : World) (hc : W.cell? ⟨pb, 0, none⟩ = some v) :
    Calls Tryz.prog 14 #[.pointer (some ⟨pb, 0, none⟩)] W fun e w' => e = .returned v ∧ RowKit.Below W.heap.size W w' := by
  go_enter Tryz.func14, Tryz.ntmps14
  go_wp2
  go_ret
  exact ⟨rfl, RowKit.Below.refl _ _⟩
/-- All blocks but the three result cells stay. -/
def RowKit.KeptD (B : Nat) (w w' : World) : Prop := ∀ k, k < w.heap.size → B + 3 ≤ k → w'.heap[k]? = w.heap[k]?
theorem keptD_three (B : Nat) (w : World) (x y z : Value) : RowKit.KeptD B w (((w.setCell ⟨B, 0, none⟩ x).setCell ⟨B + 1, 0, none⟩ y).setCell ⟨B + 1 + 1, 0, none⟩ z) := fun k hk hB => by
  rw [Below.heap_setCell _ _ _ _ (by simp; omega), Below.heap_setCell _ _ _ _ (by simp; omega), Below.heap_setCell _ _ _ _ (by simp; omega)]
theorem own_three {B B0 t k n : Nat} {v : Value} {xs : List Value} {w w' : World} (h : w.ownsRow B0 t k v n xs) (hB : B + 3 ≤ B0) (hk : RowKit.KeptD B w w') : w'.ownsRow B0 t k v n xs := by
  obtain ⟨h0, h | ⟨g, cap, cur, hv, hg0, hg, hr⟩⟩ := h
  · exact ⟨h0, .inl h⟩
  · exact ⟨h0, .inr ⟨g, cap, cur, hv, hg0, (hk g (lt_of_block hg) (by omega)).trans hg, hr⟩⟩
/-- What the results' region leaves as it is. -/
def ResD (w : World) (x : Value) (v : World) : Prop :=
  (∃ y, v.rowIs w.heap.size 24 1 (fun _ => y)) ∧ v.rowIs (w.heap.size + 1) 31 1 (fun _ => x) ∧ (∃ z, v.rowIs (w.heap.size + 1 + 1) 4 1 (fun _ => z)) ∧ RowKit.Below w.heap.size w v
theorem ResD.cells {w v : World} {x : Value} (h : ResD w x v) : (∃ y, v.cell? ⟨w.heap.size, 0, none⟩ = some y) ∧ v.cell? ⟨w.heap.size + 1, 0, none⟩ = some x ∧ (∃ z, v.cell? ⟨w.heap.size + 1 + 1, 0, none⟩ = some z) ∧ v.frozen? ⟨w.heap.size, 0, none⟩ = false ∧ v.frozen? ⟨w.heap.size + 1, 0, none⟩ = false ∧ v.frozen? ⟨w.heap.size + 1 + 1, 0, none⟩ = false := by
  obtain ⟨⟨y, h1⟩, h2, ⟨z, h3⟩, h4⟩ := h
  exact ⟨⟨y, h1.cell (by omega)⟩, h2.cell (by omega), ⟨z, h3.cell (by omega)⟩, h1.frozen 0, h2.frozen 0, h3.frozen 0⟩
theorem ResD.below {w v v' : World} {x : Value} (h : ResD w x v) (hb : RowKit.Below v.heap.size v v') : ResD w x v' := by
  obtain ⟨⟨y, h1⟩, h2, ⟨z, h3⟩, h4⟩ := h
  exact ⟨⟨y, rowIs_below h1 hb h1.lt⟩, rowIs_below h2 hb h2.lt, ⟨z, rowIs_below h3 hb h3.lt⟩, h4.trans (hb.mono h4.size)⟩
theorem ResD.set1 {w v : World} {x : Value} (h : ResD w x v) (u : Value) : ResD w x (v.setCell ⟨w.heap.size, 0, none⟩ u) := by
  obtain ⟨⟨y, h1⟩, h2, ⟨z, h3⟩, h4⟩ := h
  exact ⟨⟨u, (h1.set 0 u).congr fun j hj => (by obtain rfl : j = 0 := (by omega); simp)⟩, h2.setOther (by simp) _, ⟨z, h3.setOther (by simp; omega) _⟩, h4.setCell (by simp) _⟩
theorem ResD.set2 {w v : World} {x : Value} (h : ResD w x v) : ResD w x (v.setCell ⟨w.heap.size + 1, 0, none⟩ x) := by
  obtain ⟨⟨y, h1⟩, h2, ⟨z, h3⟩, h4⟩ := h
  exact ⟨⟨y, h1.setOther (by simp) _⟩, (h2.set 0 x).congr fun j hj => (by obtain rfl : j = 0 := (by omega); simp), ⟨z, h3.setOther (by simp) _⟩, h4.setCell (by simp) _⟩
theorem ResD.set3 {w v : World} {x : Value} (h : ResD w x v) (u : Value) : ResD w x (v.setCell ⟨w.heap.size + 1 + 1, 0, none⟩ u) := by
  obtain ⟨⟨y, h1⟩, h2, ⟨z, h3⟩, h4⟩ := h
  exact ⟨⟨y, h1.setOther (by simp; omega) _⟩, h2.setOther (by simp) _, ⟨u, (h3.set 0 u).congr fun j hj => (by obtain rfl : j = 0 := (by omega); simp)⟩, h4.setCell (by simp; omega) _⟩
set_option maxRecDepth 100000 in
theorem bookDeeds_yes (v vd : Value) (L : List UInt8) (ds : List Dd) (hL : L.length ≤ 640) (h16 : L.length % 16 = 0) (hds : ds.length ≤ 12) (hok : ∀ d ∈ ds, DdOk d) (w : World) (hD : DataAt w v L) (hE : DeedsAt w vd ds) (hT : TabB w) :
    Calls Tryz.prog 5 #[v, vd] w fun e w' => ∃ u x, e = .returned (.tuple #[u, x, .bool true]) ∧ ∃ l, EnS w' u l ∧ l.Perm (bkD (readL L (L.length / 16)) ds ds.length) ∧ BoolsS w' x (dnD (readL L (L.length / 16)) ds ds.length) ∧ RowKit.Below w.heap.size w w' := by
  have hmf := mkf Tryz.prog
  obtain ⟨hs, hr1, hr2, hr3, hB⟩ := laidD_facts w
  have hlo := Lib.hid (loadBytes_yes v L (laidD w) (hD.below hB) hL h16 (hT.below hB))
  obtain ⟨ga, gc, rfl, hE⟩ := hE
  clear hD hT
  go_enter_defers Tryz.func5, Tryz.ntmps5
  go_upto_region 2 with (fail)
  change Code.wp _ _ _ _ (laidD w)
  generalize laidD w = w1 at *
  go_wp2_with (fail)
  refine hlo.out.mono ?_
  rintro e w2 ⟨pb, vb, lb, rfl, ⟨hpb, hcb, hEn, hp, hso⟩, hb2, hge, hRow, hOwn⟩
  have hAl := readL_len L (L.length / 16)
  have hA40 : L.length / 16 ≤ 40 := by omega
  generalize hA : readL L (L.length / 16) = A at *
  replace hA := Lib.hid hA
  have hR : DeedR w pb w1.heap.size A [] w2 := ⟨⟨lb, hp, vb, hRow, hOwn⟩, rowIs_below hr1 hb2 hr1.lt, ⟨_, rowIs_below hr2 hb2 hr2.lt, World.ownsRow_nil _ _ _ _⟩, rowIs_below hr3 hb2 hr3.lt, hB.trans (hb2.mono hB.size)⟩
  clear hpb hcb hEn hp hso hb2 hRow hOwn hr1 hr2 hr3 hB hlo
  generalize w1.heap.size = B0 at *
  clear w1
  go_wp2_with (fail)
  go_loopw [22] (fun i wr => ∃ k : Nat, k ≤ ds.length ∧ i = .int .i64 (k : Int) ∧ DeedR w pb B0 (bkD A ds k) (dnD A ds k) wr) (fun i _ => ds.length - (intOf i).toNat)
  case atStart => exact ⟨0, by omega, rfl, hR⟩
  case round =>
    clear hR
    obtain ⟨k, hk, rfl, hR⟩ := hrel
    by_cases hlt : k < ds.length
    · obtain ⟨g, o, rfl, hg, hc⟩ := hE (by omega)
      clear hE
      have hsucc := bkD_succ A ds k hlt
      have hdn := dnD_succ A ds k
      have hdl := dnD_len A ds k
      have hbl := bkD_len A ds k (by omega)
      have hokd := hok _ (List.getElem_mem hlt)
      rw [show ds[k] = ds.getD k d0 by rw [List.getD_eq_getElem?_getD, List.getElem?_eq_getElem hlt]; rfl] at hokd
      have hcl := fun j (hj : j < 6) => (hR.bl.cell (show (⟨g, o + k * 6 + j, none⟩ : Addr).block < w.heap.size from hg)).trans (hc k hlt j hj)
      generalize ds.getD k d0 = d at *
      obtain ⟨kd, ky, fr, tt, pr, wt⟩ := d
      have c0 := hcl 0 (by omega)
      have c1 := hcl 1 (by omega)
      have c2 := hcl 2 (by omega)
      have c3 := hcl 3 (by omega)
      have c4 := hcl 4 (by omega)
      have c5 := hcl 5 (by omega)
      simp only [ddF, Nat.add_zero] at c0 c1 c2 c3 c4 c5
      clear hcl hc hok
      have hd : decide ((k : Int) < (ds.length : Int)) = true := decide_eq_true (by omega)
      go_upto_region 9 with (fail)
      have hV := (row_lit wr #[.int .i64 kd, .int .u64 ky, .int .i64 fr, .int .i64 tt, .int .i64 pr, .int .u16 wt] 35).congr (g := ddF (kd, ky, fr, tt, pr, wt)) (fun j hj => by (have hj : j < 6 := hj); (have : j = 0 ∨ j = 1 ∨ j = 2 ∨ j = 3 ∨ j = 4 ∨ j = 5 := (by omega)); rcases this with rfl | rfl | rfl | rfl | rfl | rfl <;> rfl)
      have hR4 := hR.below ((RowKit.Below.refl _ _).alloc (Nat.le_refl _) (.cells #[.int .i64 kd, .int .u64 ky, .int .i64 fr, .int .i64 tt, .int .i64 pr, .int .u16 wt] 35))
      clear c0 c1 c2 c3 c4 c5 hR
      generalize wr.alloc (.cells #[.int .i64 kd, .int .u64 ky, .int .i64 fr, .int .i64 tt, .int .i64 pr, .int .u16 wt] 35) = w4 at *
      replace hV : VarD wr.heap.size (kd, ky, fr, tt, pr, wt) w4 := hV
      generalize wr.heap.size = Es at *
      clear wr hd
      replace hsucc := Lib.hid hsucc
      replace hdn := Lib.hid hdn
      generalize bkD A ds k = m at *
      generalize dnD A ds k = bs at *
      obtain ⟨hk3, h1, h2, h3⟩ := hokd
      simp only at hk3 h1 h2 h3
      obtain ⟨e0, e1, e2, e3, e4, e5⟩ := hV.cells
      simp only at e0 e1 e2 e3 e4 e5
      rcases hk3 with rfl | rfl | rfl
      · go_upto_region 11 with (fail)
        clear e0 e1 e2 e3 e4 e5
        have hR5 := hR4.below (⟨rfl, rfl, rfl, Nat.le_refl _, fun _ _ => rfl⟩ : RowKit.Below w4.heap.size w4 w4.drew)
        clear hR4
        refine wp_region_noPanic ?_
        refine wp_region_held_drew (S := VarD Es (1, ky, fr, tt, pr, wt)) (by kernel_rfl) (hV.of_block rfl) (fun hHeld => ?_)
        clear hV
        refine wpAnyH_take (i := 0) (v := ?_) rfl (by kernel_rfl) (by kernel_rfl) (by kernel_rfl) (fun _ _ _ h => h) (Or.inl ⟨by rfl, ?_⟩) (by assumption) ?_
        rotate_left
        · (intro w hSw; obtain ⟨e0, e1, e2, e3, e4, e5⟩ := hSw.cells; simp only at e0 e1 e2 e3 e4 e5; go_simp; try with_reducible rfl)
        try simp only [List.getElem_toArray, List.getElem_cons_succ, List.getElem_cons_zero, Act.put, List.setIfInBounds_toArray, List.set_cons_zero, List.set_cons_succ]
        refine wpAnyH_take (i := 1) (v := ?_) rfl (by kernel_rfl) (by kernel_rfl) (by kernel_rfl) (fun _ _ _ h => h) (Or.inl ⟨by rfl, ?_⟩) (by assumption) ?_
        rotate_left
        · (intro w hSw; obtain ⟨e0, e1, e2, e3, e4, e5⟩ := hSw.cells; simp only at e0 e1 e2 e3 e4 e5; go_simp; try with_reducible rfl)
        try simp only [List.getElem_toArray, List.getElem_cons_succ, List.getElem_cons_zero, Act.put, List.setIfInBounds_toArray, List.set_cons_zero, List.set_cons_succ]
        refine wpAnyH_take (i := 2) (v := ?_) rfl (by kernel_rfl) (by kernel_rfl) (by kernel_rfl) (fun _ _ _ h => h) (Or.inl ⟨by rfl, ?_⟩) (by assumption) ?_
        rotate_left
        · (intro w hSw; obtain ⟨e0, e1, e2, e3, e4, e5⟩ := hSw.cells; simp only at e0 e1 e2 e3 e4 e5; go_simp; try with_reducible rfl)
        try simp only [List.getElem_toArray, List.getElem_cons_succ, List.getElem_cons_zero, Act.put, List.setIfInBounds_toArray, List.set_cons_zero, List.set_cons_succ]
        refine wpAnyH_take (i := 3) (v := ?_) rfl (by kernel_rfl) (by kernel_rfl) (by kernel_rfl) (fun _ _ _ h => h) (Or.inl ⟨by rfl, ?_⟩) (by assumption) ?_
        rotate_left
        · (intro w hSw; obtain ⟨e0, e1, e2, e3, e4, e5⟩ := hSw.cells; simp only at e0 e1 e2 e3 e4 e5; go_simp; try with_reducible rfl)
        try simp only [List.getElem_toArray, List.getElem_cons_succ, List.getElem_cons_zero, Act.put, List.setIfInBounds_toArray, List.set_cons_zero, List.set_cons_succ]
        refine wpAnyH_take (i := 4) (v := ?_) rfl (by kernel_rfl) (by kernel_rfl) (by kernel_rfl) (fun _ _ _ h => h) (Or.inl ⟨by rfl, ?_⟩) (by assumption) ?_
        rotate_left
        · (intro w hSw; obtain ⟨e0, e1, e2, e3, e4, e5⟩ := hSw.cells; simp only at e0 e1 e2 e3 e4 e5; go_simp; try with_reducible rfl)
        try simp only [List.getElem_toArray, List.getElem_cons_succ, List.getElem_cons_zero, Act.put, List.setIfInBounds_toArray, List.set_cons_zero, List.set_cons_succ]
        refine wpAnyH_take (i := 8) (v := ?_) rfl (by kernel_rfl) (by kernel_rfl) (by kernel_rfl) (fun _ _ _ h => h) (Or.inl ⟨by rfl, ?_⟩) (by assumption) ?_
        rotate_left
        · (intro w hSw; obtain ⟨e0, e1, e2, e3, e4, e5⟩ := hSw.cells; simp only at e0 e1 e2 e3 e4 e5; go_simp; try with_reducible rfl)
        try simp only [List.getElem_toArray, List.getElem_cons_succ, List.getElem_cons_zero, Act.put, List.setIfInBounds_toArray, List.set_cons_zero, List.set_cons_succ]
        refine wpAnyH_take (i := 9) (v := ?_) rfl (by kernel_rfl) (by kernel_rfl) (by kernel_rfl) (fun _ _ _ h => h) (Or.inl ⟨by rfl, ?_⟩) (by assumption) ?_
        rotate_left
        · (intro w hSw; obtain ⟨e0, e1, e2, e3, e4, e5⟩ := hSw.cells; simp only at e0 e1 e2 e3 e4 e5; go_simp; try with_reducible rfl)
        try simp only [List.getElem_toArray, List.getElem_cons_succ, List.getElem_cons_zero, Act.put, List.setIfInBounds_toArray, List.set_cons_zero, List.set_cons_succ]
        refine wpAnyH_ready (rs := [5]) (by kernel_rfl) (by simp) ?_
        refine AllReadyH.cons rfl (fun K hK => ?_) AllReadyH.nil
        try simp only [List.getElem_toArray, List.getElem_cons_succ, List.getElem_cons_zero, Act.put, List.setIfInBounds_toArray, List.set_cons_zero, List.set_cons_succ]
        go_simp
        refine (move_any fr tt pr h1 h2 h3 _).mono ?_
        rintro e v1 ⟨gm, rfl, hgm, hrow, hb1⟩
        have hHeld1 : VarD Es (1, ky, fr, tt, pr, wt) v1 := rowIs_below hHeld hb1 hHeld.lt
        have hR6 := hR5.below hb1
        clear hb1 hR5 hHeld
        go_wp2_with (fail)
        refine hK.out _ _ hHeld1 (fun hHeld => ?_)
        clear hK K hHeld1
        try simp only [List.getElem_toArray, List.getElem_cons_succ, List.getElem_cons_zero, Act.put, List.setIfInBounds_toArray, List.set_cons_zero, List.set_cons_succ]
        refine wpAnyH_take (i := 6) (v := ?_) rfl (by kernel_rfl) (by kernel_rfl) (by kernel_rfl) (fun _ _ _ h => h) (Or.inl ⟨by rfl, ?_⟩) (by assumption) ?_
        rotate_left
        · (intro w hSw; obtain ⟨e0, e1, e2, e3, e4, e5⟩ := hSw.cells; simp only at e0 e1 e2 e3 e4 e5; go_simp; try with_reducible rfl)
        try simp only [List.getElem_toArray, List.getElem_cons_succ, List.getElem_cons_zero, Act.put, List.setIfInBounds_toArray, List.set_cons_zero, List.set_cons_succ]
        refine wpAnyH_ready (rs := [7]) (by kernel_rfl) (by simp) ?_
        refine AllReadyH.cons rfl (fun K hK => ?_) AllReadyH.nil
        try simp only [List.getElem_toArray, List.getElem_cons_succ, List.getElem_cons_zero, Act.put, List.setIfInBounds_toArray, List.set_cons_zero, List.set_cons_succ]
        have m0 := hrow.cell (i := 0) (by omega)
        have m1 := hrow.cell (i := 1) (by omega)
        have m2 := hrow.cell (i := 2) (by omega)
        have m3 := hrow.cell (i := 3) (by omega)
        have m4 := hrow.cell (i := 4) (by omega)
        have m5 := hrow.cell (i := 5) (by omega)
        have m6 := hrow.cell (i := 6) (by omega)
        have m7 := hrow.cell (i := 7) (by omega)
        have m8 := hrow.cell (i := 8) (by omega)
        have m9 := hrow.cell (i := 9) (by omega)
        have m10 := hrow.cell (i := 10) (by omega)
        simp only [mvF] at m0 m1 m2 m3 m4 m5 m6 m7 m8 m9 m10
        clear hrow
        go_simp
        refine hK.out _ _ hHeld (fun _ => ?_)
        clear hK K m0 m1 m2 m3 m4 m5 m6 m7 m8 m9 m10
        try simp only [List.getElem_toArray, List.getElem_cons_succ, List.getElem_cons_zero, Act.put, List.setIfInBounds_toArray, List.set_cons_zero, List.set_cons_succ]
        refine wpAnyH_ready (rs := [10]) (by kernel_rfl) (by simp) ?_
        refine AllReadyH.cons rfl (fun K hK => ?_) AllReadyH.nil
        try simp only [List.getElem_toArray, List.getElem_cons_succ, List.getElem_cons_zero, Act.put, List.setIfInBounds_toArray, List.set_cons_zero, List.set_cons_succ]
        obtain ⟨l, hp, hBk⟩ := hR6.bk
        have hll : l.length < 1000 := by have := hp.length_eq; omega
        go_simp
        refine (addMove_any pb B0 l ky wt fr tt pr h1 h2 h3 hll v1 hBk hge).mono ?_
        rintro e v2 ⟨rfl, l', hp', hB', hb2, hk2⟩
        have hR7 : DeedR w pb B0 (doD m (1, ky, fr, tt, pr, wt)) bs v2 := hR6.turn (hp'.trans (hp.append_right _)) hB' hb2 hk2 (by omega)
        have hHeld2 : VarD Es (1, ky, fr, tt, pr, wt) v2 := hk2.row hHeld (by decide) (by decide)
        clear hp' hB' hb2 hk2 hp hBk hR6 hHeld
        go_wp2_with (fail)
        refine hK.out _ _ hHeld2 (fun _ => ?_)
        clear hK K hHeld2
        refine wpAnyH_done (by kernel_rfl) (NoPanic.normal ?_) _
        have hdb : doneD m (1, ky, fr, tt, pr, wt) = true := by simp [doneD]
        obtain ⟨x, hx, hox⟩ := hR7.r2
        obtain ⟨xa, xn, xc, rfl⟩ : ∃ a n c, x = .slice a n c := by
          rcases hox.2 with ⟨hv, _⟩ | ⟨_, _, _, hv, _⟩ <;> exact ⟨_, _, _, hv⟩
        have yv := hx.cell (i := 0) (by omega)
        have yf := hx.frozen 0
        have hone : ∀ u ∈ [Value.bool true], u.oneCell' = true := by intro u hu; simp only [List.mem_cons, List.not_mem_nil, or_false] at hu; subst hu; rfl
        have hB2 : B0 ≤ v2.heap.size := by obtain ⟨_, _, _, hb, _⟩ := hR7.bk; have := hb.lt; omega
        have hbs : bs.length < 1000000000 := by omega
        have hpush := Lib.hid (fun va vn vc w7 => hR7.push (va := va) (vn := vn) (vc := vc) (b := true) (w7 := w7) hs)
        clear hR7 hx
        rw [hdb] at hdn
        clear hdb
        go_wp2_with (at_builtin; refine wpList_app2 rfl _ _ 31 rfl B0 4 (.bool false) 1 1 Tryz.underlying31 infoBool rfl (by decide) (.slice xa xn xc) bs.length (boolsV bs) rfl hox hB2 [.bool true] hone rfl v2.heap.size rfl rfl hbs (by decide) ?_; intro va vn vc w7 hown7 hb7 hkp; obtain ⟨zf, ⟨z, zv⟩, hfin⟩ := hpush.out va vn vc w7 hown7 hb7 hkp; replace hfin := Lib.hid hfin; clear hpush hown7 hb7 hkp hox yv yf hone)
        exact ⟨⟨k + 1, by omega, by go_num, by rw [hsucc.out, hdn.out]; exact hfin.out⟩, by simp [intOf]; omega⟩
      · go_upto_region 13 with (fail)
        clear e0 e1 e2 e3 e4 e5
        have hR5 := hR4.below (⟨rfl, rfl, rfl, Nat.le_refl _, fun _ _ => rfl⟩ : RowKit.Below w4.heap.size w4 w4.drew)
        clear hR4
        refine wp_region_noPanic ?_
        refine wp_region_held_drew (S := VarD Es (2, ky, fr, tt, pr, wt)) (by kernel_rfl) (hV.of_block rfl) (fun hHeld => ?_)
        clear hV
        refine wpAnyH_take (i := 0) (v := ?_) rfl (by kernel_rfl) (by kernel_rfl) (by kernel_rfl) (fun _ _ _ h => h) (Or.inl ⟨by rfl, ?_⟩) (by assumption) ?_
        rotate_left
        · (intro w hSw; obtain ⟨e0, e1, e2, e3, e4, e5⟩ := hSw.cells; simp only at e0 e1 e2 e3 e4 e5; go_simp; try with_reducible rfl)
        try simp only [List.getElem_toArray, List.getElem_cons_succ, List.getElem_cons_zero, Act.put, List.setIfInBounds_toArray, List.set_cons_zero, List.set_cons_succ]
        refine wpAnyH_take (i := 1) (v := ?_) rfl (by kernel_rfl) (by kernel_rfl) (by kernel_rfl) (fun _ _ _ h => h) (Or.inl ⟨by rfl, ?_⟩) (by assumption) ?_
        rotate_left
        · (intro w hSw; obtain ⟨e0, e1, e2, e3, e4, e5⟩ := hSw.cells; simp only at e0 e1 e2 e3 e4 e5; go_simp; try with_reducible rfl)
        try simp only [List.getElem_toArray, List.getElem_cons_succ, List.getElem_cons_zero, Act.put, List.setIfInBounds_toArray, List.set_cons_zero, List.set_cons_succ]
        refine wpAnyH_take (i := 2) (v := ?_) rfl (by kernel_rfl) (by kernel_rfl) (by kernel_rfl) (fun _ _ _ h => h) (Or.inl ⟨by rfl, ?_⟩) (by assumption) ?_
        rotate_left
        · (intro w hSw; obtain ⟨e0, e1, e2, e3, e4, e5⟩ := hSw.cells; simp only at e0 e1 e2 e3 e4 e5; go_simp; try with_reducible rfl)
        try simp only [List.getElem_toArray, List.getElem_cons_succ, List.getElem_cons_zero, Act.put, List.setIfInBounds_toArray, List.set_cons_zero, List.set_cons_succ]
        refine wpAnyH_take (i := 3) (v := ?_) rfl (by kernel_rfl) (by kernel_rfl) (by kernel_rfl) (fun _ _ _ h => h) (Or.inl ⟨by rfl, ?_⟩) (by assumption) ?_
        rotate_left
        · (intro w hSw; obtain ⟨e0, e1, e2, e3, e4, e5⟩ := hSw.cells; simp only at e0 e1 e2 e3 e4 e5; go_simp; try with_reducible rfl)
        try simp only [List.getElem_toArray, List.getElem_cons_succ, List.getElem_cons_zero, Act.put, List.setIfInBounds_toArray, List.set_cons_zero, List.set_cons_succ]
        refine wpAnyH_take (i := 4) (v := ?_) rfl (by kernel_rfl) (by kernel_rfl) (by kernel_rfl) (fun _ _ _ h => h) (Or.inl ⟨by rfl, ?_⟩) (by assumption) ?_
        rotate_left
        · (intro w hSw; obtain ⟨e0, e1, e2, e3, e4, e5⟩ := hSw.cells; simp only at e0 e1 e2 e3 e4 e5; go_simp; try with_reducible rfl)
        try simp only [List.getElem_toArray, List.getElem_cons_succ, List.getElem_cons_zero, Act.put, List.setIfInBounds_toArray, List.set_cons_zero, List.set_cons_succ]
        refine wpAnyH_take (i := 8) (v := ?_) rfl (by kernel_rfl) (by kernel_rfl) (by kernel_rfl) (fun _ _ _ h => h) (Or.inl ⟨by rfl, ?_⟩) (by assumption) ?_
        rotate_left
        · (intro w hSw; obtain ⟨e0, e1, e2, e3, e4, e5⟩ := hSw.cells; simp only at e0 e1 e2 e3 e4 e5; go_simp; try with_reducible rfl)
        try simp only [List.getElem_toArray, List.getElem_cons_succ, List.getElem_cons_zero, Act.put, List.setIfInBounds_toArray, List.set_cons_zero, List.set_cons_succ]
        refine wpAnyH_take (i := 9) (v := ?_) rfl (by kernel_rfl) (by kernel_rfl) (by kernel_rfl) (fun _ _ _ h => h) (Or.inl ⟨by rfl, ?_⟩) (by assumption) ?_
        rotate_left
        · (intro w hSw; obtain ⟨e0, e1, e2, e3, e4, e5⟩ := hSw.cells; simp only at e0 e1 e2 e3 e4 e5; go_simp; try with_reducible rfl)
        try simp only [List.getElem_toArray, List.getElem_cons_succ, List.getElem_cons_zero, Act.put, List.setIfInBounds_toArray, List.set_cons_zero, List.set_cons_succ]
        refine wpAnyH_ready (rs := [5]) (by kernel_rfl) (by simp) ?_
        refine AllReadyH.cons rfl (fun K hK => ?_) AllReadyH.nil
        try simp only [List.getElem_toArray, List.getElem_cons_succ, List.getElem_cons_zero, Act.put, List.setIfInBounds_toArray, List.set_cons_zero, List.set_cons_succ]
        go_simp
        refine (move_any fr tt pr h1 h2 h3 _).mono ?_
        rintro e v1 ⟨gm, rfl, hgm, hrow, hb1⟩
        have hHeld1 : VarD Es (2, ky, fr, tt, pr, wt) v1 := rowIs_below hHeld hb1 hHeld.lt
        have hR6 := hR5.below hb1
        clear hb1 hR5 hHeld
        go_wp2_with (fail)
        refine hK.out _ _ hHeld1 (fun hHeld => ?_)
        clear hK K hHeld1
        try simp only [List.getElem_toArray, List.getElem_cons_succ, List.getElem_cons_zero, Act.put, List.setIfInBounds_toArray, List.set_cons_zero, List.set_cons_succ]
        refine wpAnyH_take (i := 6) (v := ?_) rfl (by kernel_rfl) (by kernel_rfl) (by kernel_rfl) (fun _ _ _ h => h) (Or.inl ⟨by rfl, ?_⟩) (by assumption) ?_
        rotate_left
        · (intro w hSw; obtain ⟨e0, e1, e2, e3, e4, e5⟩ := hSw.cells; simp only at e0 e1 e2 e3 e4 e5; go_simp; try with_reducible rfl)
        try simp only [List.getElem_toArray, List.getElem_cons_succ, List.getElem_cons_zero, Act.put, List.setIfInBounds_toArray, List.set_cons_zero, List.set_cons_succ]
        refine wpAnyH_ready (rs := [7]) (by kernel_rfl) (by simp) ?_
        refine AllReadyH.cons rfl (fun K hK => ?_) AllReadyH.nil
        try simp only [List.getElem_toArray, List.getElem_cons_succ, List.getElem_cons_zero, Act.put, List.setIfInBounds_toArray, List.set_cons_zero, List.set_cons_succ]
        have m0 := hrow.cell (i := 0) (by omega)
        have m1 := hrow.cell (i := 1) (by omega)
        have m2 := hrow.cell (i := 2) (by omega)
        have m3 := hrow.cell (i := 3) (by omega)
        have m4 := hrow.cell (i := 4) (by omega)
        have m5 := hrow.cell (i := 5) (by omega)
        have m6 := hrow.cell (i := 6) (by omega)
        have m7 := hrow.cell (i := 7) (by omega)
        have m8 := hrow.cell (i := 8) (by omega)
        have m9 := hrow.cell (i := 9) (by omega)
        have m10 := hrow.cell (i := 10) (by omega)
        simp only [mvF] at m0 m1 m2 m3 m4 m5 m6 m7 m8 m9 m10
        clear hrow
        go_simp
        refine hK.out _ _ hHeld (fun _ => ?_)
        clear hK K m0 m1 m2 m3 m4 m5 m6 m7 m8 m9 m10
        try simp only [List.getElem_toArray, List.getElem_cons_succ, List.getElem_cons_zero, Act.put, List.setIfInBounds_toArray, List.set_cons_zero, List.set_cons_succ]
        refine wpAnyH_ready (rs := [10]) (by kernel_rfl) (by simp) ?_
        refine AllReadyH.cons rfl (fun K hK => ?_) AllReadyH.nil
        try simp only [List.getElem_toArray, List.getElem_cons_succ, List.getElem_cons_zero, Act.put, List.setIfInBounds_toArray, List.set_cons_zero, List.set_cons_succ]
        obtain ⟨l, hp, hBk⟩ := hR6.bk
        have hll : l.length < 1000 := by have := hp.length_eq; omega
        go_simp
        refine (updMove_any pb B0 l ky wt fr tt pr h1 h2 h3 hll v1 hBk hge).mono ?_
        rintro e v2 ⟨u, rfl, hu, hB', hb2, hk2⟩
        have hany : l.any (hitE ky (tt + 64 * fr + 4096 * polP pr)) = doneD m (2, ky, fr, tt, pr, wt) := any_perm hp _
        have hR7 : DeedR w pb B0 (doD m (2, ky, fr, tt, pr, wt)) bs v2 := hR6.turn (hp.map _) hB' hb2 hk2 (by omega)
        have hHeld2 : VarD Es (2, ky, fr, tt, pr, wt) v2 := hk2.row hHeld (by decide) (by decide)
        rw [hany] at hu
        clear hany hB' hb2 hk2 hp hBk hR6 hHeld
        go_wp2_with (fail)
        refine hK.out _ _ hHeld2 (fun hHeld => ?_)
        clear hK K hHeld2
        try simp only [List.getElem_toArray, List.getElem_cons_succ, List.getElem_cons_zero, Act.put, List.setIfInBounds_toArray, List.set_cons_zero, List.set_cons_succ]
        rcases hu with ⟨rfl, hdb2⟩ | ⟨⟨ad, rfl⟩, hdb2⟩
        · refine wpAnyH_take (i := 11) (v := ?_) rfl (by kernel_rfl) (by kernel_rfl) (by kernel_rfl) (fun _ _ _ h => h) (Or.inl ⟨by rfl, ?_⟩) (by assumption) ?_
          rotate_left
          · (intro w hSw; obtain ⟨e0, e1, e2, e3, e4, e5⟩ := hSw.cells; simp only at e0 e1 e2 e3 e4 e5; go_simp; try with_reducible rfl)
          try simp only [List.getElem_toArray, List.getElem_cons_succ, List.getElem_cons_zero, Act.put, List.setIfInBounds_toArray, List.set_cons_zero, List.set_cons_succ]
          refine wpAnyH_take (i := 12) (v := ?_) rfl (by kernel_rfl) (by kernel_rfl) (by kernel_rfl) (fun _ _ _ h => h) (Or.inl ⟨by rfl, ?_⟩) (by assumption) ?_
          rotate_left
          · (intro w hSw; obtain ⟨e0, e1, e2, e3, e4, e5⟩ := hSw.cells; simp only at e0 e1 e2 e3 e4 e5; go_simp; try with_reducible rfl)
          try simp only [List.getElem_toArray, List.getElem_cons_succ, List.getElem_cons_zero, Act.put, List.setIfInBounds_toArray, List.set_cons_zero, List.set_cons_succ]
          refine wpAnyH_done (by kernel_rfl) (NoPanic.normal ?_) _
          have hdb : doneD m (2, ky, fr, tt, pr, wt) = true := hdb2
          obtain ⟨x, hx, hox⟩ := hR7.r2
          obtain ⟨xa, xn, xc, rfl⟩ : ∃ a n c, x = .slice a n c := by
            rcases hox.2 with ⟨hv, _⟩ | ⟨_, _, _, hv, _⟩ <;> exact ⟨_, _, _, hv⟩
          have yv := hx.cell (i := 0) (by omega)
          have yf := hx.frozen 0
          have hone : ∀ u ∈ [Value.bool true], u.oneCell' = true := by intro u hu; simp only [List.mem_cons, List.not_mem_nil, or_false] at hu; subst hu; rfl
          have hB2 : B0 ≤ v2.heap.size := by obtain ⟨_, _, _, hb, _⟩ := hR7.bk; have := hb.lt; omega
          have hbs : bs.length < 1000000000 := by omega
          have hpush := Lib.hid (fun va vn vc w7 => hR7.push (va := va) (vn := vn) (vc := vc) (b := true) (w7 := w7) hs)
          clear hR7 hx
          rw [hdb] at hdn
          clear hdb
          go_wp2_with (at_builtin; refine wpList_app2 rfl _ _ 31 rfl B0 4 (.bool false) 1 1 Tryz.underlying31 infoBool rfl (by decide) (.slice xa xn xc) bs.length (boolsV bs) rfl hox hB2 [.bool true] hone rfl v2.heap.size rfl rfl hbs (by decide) ?_; intro va vn vc w7 hown7 hb7 hkp; obtain ⟨zf, ⟨z, zv⟩, hfin⟩ := hpush.out va vn vc w7 hown7 hb7 hkp; replace hfin := Lib.hid hfin; clear hpush hown7 hb7 hkp hox yv yf hone)
          exact ⟨⟨k + 1, by omega, by go_num, by rw [hsucc.out, hdn.out]; exact hfin.out⟩, by simp [intOf]; omega⟩
        · have hne := nil_ne 117 ad
          refine wpAnyH_take (i := 11) (v := ?_) rfl (by kernel_rfl) (by kernel_rfl) (by kernel_rfl) (fun _ _ _ h => h) (Or.inl ⟨by rfl, ?_⟩) (by assumption) ?_
          rotate_left
          · (intro w hSw; obtain ⟨e0, e1, e2, e3, e4, e5⟩ := hSw.cells; simp only at e0 e1 e2 e3 e4 e5; go_simp; try with_reducible rfl)
          try simp only [List.getElem_toArray, List.getElem_cons_succ, List.getElem_cons_zero, Act.put, List.setIfInBounds_toArray, List.set_cons_zero, List.set_cons_succ]
          refine wpAnyH_take (i := 12) (v := ?_) rfl (by kernel_rfl) (by kernel_rfl) (by kernel_rfl) (fun _ _ _ h => h) (Or.inl ⟨by rfl, ?_⟩) (by assumption) ?_
          rotate_left
          · (intro w hSw; obtain ⟨e0, e1, e2, e3, e4, e5⟩ := hSw.cells; simp only at e0 e1 e2 e3 e4 e5; go_simp; try with_reducible rfl)
          try simp only [List.getElem_toArray, List.getElem_cons_succ, List.getElem_cons_zero, Act.put, List.setIfInBounds_toArray, List.set_cons_zero, List.set_cons_succ]
          refine wpAnyH_done (by kernel_rfl) (NoPanic.normal ?_) _
          have hdb : doneD m (2, ky, fr, tt, pr, wt) = false := hdb2
          obtain ⟨x, hx, hox⟩ := hR7.r2
          obtain ⟨xa, xn, xc, rfl⟩ : ∃ a n c, x = .slice a n c := by
            rcases hox.2 with ⟨hv, _⟩ | ⟨_, _, _, hv, _⟩ <;> exact ⟨_, _, _, hv⟩
          have yv := hx.cell (i := 0) (by omega)
          have yf := hx.frozen 0
          have hone : ∀ u ∈ [Value.bool false], u.oneCell' = true := by intro u hu; simp only [List.mem_cons, List.not_mem_nil, or_false] at hu; subst hu; rfl
          have hB2 : B0 ≤ v2.heap.size := by obtain ⟨_, _, _, hb, _⟩ := hR7.bk; have := hb.lt; omega
          have hbs : bs.length < 1000000000 := by omega
          have hpush := Lib.hid (fun va vn vc w7 => hR7.push (va := va) (vn := vn) (vc := vc) (b := false) (w7 := w7) hs)
          clear hR7 hx
          rw [hdb] at hdn
          clear hdb
          go_wp2_with (at_builtin; refine wpList_app2 rfl _ _ 31 rfl B0 4 (.bool false) 1 1 Tryz.underlying31 infoBool rfl (by decide) (.slice xa xn xc) bs.length (boolsV bs) rfl hox hB2 [.bool false] hone rfl v2.heap.size rfl rfl hbs (by decide) ?_; intro va vn vc w7 hown7 hb7 hkp; obtain ⟨zf, ⟨z, zv⟩, hfin⟩ := hpush.out va vn vc w7 hown7 hb7 hkp; replace hfin := Lib.hid hfin; clear hpush hown7 hb7 hkp hox yv yf hone)
          exact ⟨⟨k + 1, by omega, by go_num, by rw [hsucc.out, hdn.out]; exact hfin.out⟩, by simp [intOf]; omega⟩
      · obtain ⟨l, hp, hBk⟩ := hR4.bk
        have hll : l.length < 1000 := by have := hp.length_eq; omega
        have hde := Lib.hid (delMoves_any pb B0 l ky hll w4 hBk hge)
        go_wp2_with (fail)
        refine hde.out.mono ?_
        rintro e v2 ⟨rfl, hB', hb2, hk2⟩
        have hR7 : DeedR w pb B0 (doD m (3, ky, fr, tt, pr, wt)) bs v2 := hR4.turn (hp.filter _) hB' hb2 hk2 (by omega)
        clear hB' hb2 hk2 hp hBk hR4 hde hV e0 e1 e2 e3 e4 e5
        have hdb : doneD m (3, ky, fr, tt, pr, wt) = true := by simp [doneD]
        obtain ⟨x, hx, hox⟩ := hR7.r2
        obtain ⟨xa, xn, xc, rfl⟩ : ∃ a n c, x = .slice a n c := by
          rcases hox.2 with ⟨hv, _⟩ | ⟨_, _, _, hv, _⟩ <;> exact ⟨_, _, _, hv⟩
        have yv := hx.cell (i := 0) (by omega)
        have yf := hx.frozen 0
        have hone : ∀ u ∈ [Value.bool true], u.oneCell' = true := by intro u hu; simp only [List.mem_cons, List.not_mem_nil, or_false] at hu; subst hu; rfl
        have hB2 : B0 ≤ v2.heap.size := by obtain ⟨_, _, _, hb, _⟩ := hR7.bk; have := hb.lt; omega
        have hbs : bs.length < 1000000000 := by omega
        have hpush := Lib.hid (fun va vn vc w7 => hR7.push (va := va) (vn := vn) (vc := vc) (b := true) (w7 := w7) hs)
        clear hR7 hx
        rw [hdb] at hdn
        clear hdb
        go_wp2_with (at_builtin; refine wpList_app2 rfl _ _ 31 rfl B0 4 (.bool false) 1 1 Tryz.underlying31 infoBool rfl (by decide) (.slice xa xn xc) bs.length (boolsV bs) rfl hox hB2 [.bool true] hone rfl v2.heap.size rfl rfl hbs (by decide) ?_; intro va vn vc w7 hown7 hb7 hkp; obtain ⟨zf, ⟨z, zv⟩, hfin⟩ := hpush.out va vn vc w7 hown7 hb7 hkp; replace hfin := Lib.hid hfin; clear hpush hown7 hb7 hkp hox yv yf hone)
        exact ⟨⟨k + 1, by omega, by go_num, by rw [hsucc.out, hdn.out]; exact hfin.out⟩, by simp [intOf]; omega⟩
    · obtain rfl : k = ds.length := by omega
      clear hE hok hlt hk
      have hbl := bkD_len A ds ds.length (Nat.le_refl _)
      generalize hm : bkD A ds ds.length = m at *
      replace hm := Lib.hid hm
      have hdl := dnD_len A ds ds.length
      generalize hbd : dnD A ds ds.length = bs at *
      replace hbd := Lib.hid hbd
      go_upto_region 18 with (fail)
      have hR5 := hR.below (⟨rfl, rfl, rfl, Nat.le_refl _, fun _ _ => rfl⟩ : RowKit.Below wr.heap.size wr wr.drew)
      clear hR
      obtain ⟨⟨l, hp, pv, hrow, hown⟩, r1, ⟨x, r2, r2o⟩, r3, rB⟩ := hR5
      obtain ⟨xa, xn, xc, rfl⟩ : ∃ a n c, x = .slice a n c := by
        rcases r2o.2 with ⟨hv, _⟩ | ⟨_, _, _, hv, _⟩ <;> exact ⟨_, _, _, hv⟩
      have hEn := ens_own hown
      have hpc := hrow.cell (i := 0) (by omega)
      have hll : l.length ≤ 1000 := by have := hp.length_eq; omega
      have h : ResD w (.slice xa xn xc) wr.drew := ⟨⟨_, r1⟩, r2, ⟨_, r3⟩, rB⟩
      have hs0 : w.heap.size + 3 ≤ wr.drew.heap.size := by have := hrow.lt; omega
      clear r1 r2 r3 rB hrow hown
      refine wp_region_noPanic ?_
      refine wp_region_held_drew (S := ResD w (.slice xa xn xc)) (by kernel_rfl) h (fun hHeld => ?_)
      clear h
      refine wpAnyH_take (i := 0) (v := ?_) rfl (by kernel_rfl) (by kernel_rfl) (by kernel_rfl) (fun _ _ _ h => h) (Or.inl ⟨by rfl, ?_⟩) (by assumption) ?_
      rotate_left
      · (intro w hSw; obtain ⟨⟨z, c1⟩, c2, _⟩ := hSw.cells; go_simp; try with_reducible rfl)
      try simp only [List.getElem_toArray, List.getElem_cons_succ, List.getElem_cons_zero, Act.put, List.setIfInBounds_toArray, List.set_cons_zero, List.set_cons_succ]
      refine wpAnyH_take (i := 3) (v := ?_) rfl (by kernel_rfl) (by kernel_rfl) (by kernel_rfl) (fun _ _ _ h => h) (Or.inl ⟨by rfl, ?_⟩) (by assumption) ?_
      rotate_left
      · (intro w hSw; obtain ⟨⟨z, c1⟩, c2, _⟩ := hSw.cells; go_simp; try with_reducible rfl)
      try simp only [List.getElem_toArray, List.getElem_cons_succ, List.getElem_cons_zero, Act.put, List.setIfInBounds_toArray, List.set_cons_zero, List.set_cons_succ]
      refine wpAnyH_ready (rs := [1]) (by kernel_rfl) (by simp) ?_
      refine AllReadyH.cons rfl (fun K hK => ?_) AllReadyH.nil
      try simp only [List.getElem_toArray, List.getElem_cons_succ, List.getElem_cons_zero, Act.put, List.setIfInBounds_toArray, List.set_cons_zero, List.set_cons_succ]
      have hde := Lib.hid (doorEntries_any pb pv wr.drew hpc)
      go_simp
      refine hde.out.mono ?_
      rintro e v1 ⟨rfl, hb1⟩
      have hH1 := hHeld.below hb1
      have hE1 := hEn.below hb1
      have ho1 := own_below r2o hb1
      have hs1 : w.heap.size + 3 ≤ v1.heap.size := Nat.le_trans hs0 hb1.size
      clear hde hHeld hEn r2o hb1 hpc
      go_wp2_with (fail)
      refine hK.out _ _ hH1 (fun hHeld => ?_)
      clear hK K hH1
      try simp only [List.getElem_toArray, List.getElem_cons_succ, List.getElem_cons_zero, Act.put, List.setIfInBounds_toArray, List.set_cons_zero, List.set_cons_succ]
      refine wpAnyH_ready (rs := [2]) (by kernel_rfl) (by simp) ?_
      refine AllReadyH.cons rfl (fun K hK => ?_) AllReadyH.nil
      try simp only [List.getElem_toArray, List.getElem_cons_succ, List.getElem_cons_zero, Act.put, List.setIfInBounds_toArray, List.set_cons_zero, List.set_cons_succ]
      have hen := Lib.hid (entries_any pv l v1 hE1 hll)
      go_simp
      refine hen.out.mono ?_
      rintro e v2 ⟨u, rfl, hou, hb2⟩
      obtain ⟨ua, un, uc, rfl⟩ : ∃ a n c, u = .slice a n c := by
        rcases hou.2 with ⟨hv, _⟩ | ⟨_, _, _, hv, _⟩ <;> exact ⟨_, _, _, hv⟩
      have hH2 := hHeld.below hb2
      have ho2 := own_below ho1 hb2
      clear hen hHeld hE1 ho1 hb2
      go_wp2_with (fail)
      refine hK.out _ _ hH2 (fun hHeld => ?_)
      clear hK K hH2
      try simp only [List.getElem_toArray, List.getElem_cons_succ, List.getElem_cons_zero, Act.put, List.setIfInBounds_toArray, List.set_cons_zero, List.set_cons_succ]
      have hfin : RowKit.KeptD w.heap.size v2 (((v2.setCell ⟨w.heap.size, 0, none⟩ (.slice ua un uc)).setCell ⟨w.heap.size + 1, 0, none⟩ (.slice xa xn xc)).setCell ⟨w.heap.size + 1 + 1, 0, none⟩ (.bool true)) := keptD_three _ _ _ _ _
      have hbE := own_three ho2 (by omega) hfin
      have heE := own_three hou (by omega) hfin
      replace hbE := Lib.hid (bools_own (l := bs) hbE)
      replace heE := Lib.hid (ens_own heE)
      clear hfin ho2 hou
      refine wpAnyH_ready (rs := [4]) (by kernel_rfl) (by simp) ?_
      refine AllReadyH.cons rfl (fun K hK => ?_) AllReadyH.nil
      obtain ⟨⟨y, c1⟩, c2, ⟨z, c3⟩, f1, f2, f3⟩ := hHeld.cells
      go_simp
      have hlast1 := World.cell?_setCell_same _ _ (.slice ua un uc) c1
      refine hK.out _ _ (hHeld.set1 (.slice ua un uc)) (fun hHeld => ?_)
      clear hK K c1 c2 c3 f1 f2 f3
      refine wpAnyH_ready (rs := [5]) (by kernel_rfl) (by simp) ?_
      refine AllReadyH.cons rfl (fun K hK => ?_) AllReadyH.nil
      obtain ⟨⟨y, c1⟩, c2, ⟨z, c3⟩, f1, f2, f3⟩ := hHeld.cells
      go_simp
      refine hK.out _ _ hHeld.set2 (fun hHeld => ?_)
      clear hK K c1 c2 c3 f1 f2 f3
      refine wpAnyH_ready (rs := [6]) (by kernel_rfl) (by simp) ?_
      refine AllReadyH.cons rfl (fun K hK => ?_) AllReadyH.nil
      obtain ⟨⟨y, c1⟩, c2, ⟨z, c3⟩, f1, f2, f3⟩ := hHeld.cells
      go_simp
      have hlast3 := World.cell?_setCell_same _ _ (.bool true) c3
      refine hK.out _ _ (hHeld.set3 (.bool true)) (fun hHeld => ?_)
      clear hK K c1 c2 c3 f1 f2 f3
      refine wpAnyH_done (by kernel_rfl) (NoPanic.normal ?_) _
      have d1 : (((v2.setCell ⟨w.heap.size, 0, none⟩ (.slice ua un uc)).setCell ⟨w.heap.size + 1, 0, none⟩ (.slice xa xn xc)).setCell ⟨w.heap.size + 1 + 1, 0, none⟩ (.bool true)).cell? ⟨w.heap.size, 0, none⟩ = some (.slice ua un uc) := by
        rw [World.cell?_setCell_other _ _ _ _ (by intro e; injection e with e; omega), World.cell?_setCell_other _ _ _ _ (by intro e; injection e with e; omega)]
        exact hlast1
      have d2 := hHeld.cells.2.1
      have d3 := hlast3
      have hBw := Lib.hid hHeld.2.2.2
      clear hHeld hlast1 hlast3
      generalize (((v2.setCell ⟨w.heap.size, 0, none⟩ (.slice ua un uc)).setCell ⟨w.heap.size + 1, 0, none⟩ (.slice xa xn xc)).setCell ⟨w.heap.size + 1 + 1, 0, none⟩ (.bool true)) = wE at *
      replace hp := Lib.hid hp
      go_wp2_with (fail)
      refine leaves_cons (f := 7) (args := #[.pointer (some ⟨w.heap.size, 0, none⟩), .pointer (some ⟨w.heap.size + 1, 0, none⟩), .pointer (some ⟨w.heap.size + 2, 0, none⟩)]) (by simp) (by simp [go_sem]) ?_; refine (clo_BookDeeds _ _ _ _).mono ?_; rintro e u' w'' ⟨rfl, rfl, rfl⟩
      simp [Leaves, settle, results, Tryz.results5, asAddr, go_sem, d1, d2, d3]
      exact ⟨_, _, ⟨rfl, rfl⟩, l, heE.out, by rw [hA.out, hm.out]; exact hp.out, by rw [hA.out, hbd.out]; exact hbE.out, hBw.out⟩
end Go.Proofs.YtpoomblloahahaaGreatDoor

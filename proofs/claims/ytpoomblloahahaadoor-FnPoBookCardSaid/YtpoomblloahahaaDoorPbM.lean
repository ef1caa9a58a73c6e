/- The thin package's two functions over a book of bytes. -/
import Derived.Test.YtpoomblloahahaaDoorPbL
namespace Go.Proofs.YtpoomblloahahaaDoor
open Go.Proofs Go.Shelf Go.Sort Go.ChangeShapes Go.WideShapes Go.ChangeAt Go.RowKit Go.PlainAid
set_option maxHeartbeats 2000000
set_option linter.unusedVariables false
set_option linter.unusedSimpArgs false

theorem clo_BookFind (p0 p1 : Addr) (w : World) :
    CallsD Tryd.prog 10 #[.pointer (some p0), .pointer (some p1)] .returning w fun e u' w' => e = .returned (.tuple #[]) ∧ u' = .returning ∧ w' = w := by
  refine callsD_of_wpS Tryd.func10 rfl fun c₀ cs hu => ?_
  apply wpS_seq
  apply wpS_region
  simp [wpOpsS, go_sem, recoverD, hu, Tryd.ntmps10, Exit.thenS]
  refine wpS_cond (t := false) (by simp [Act.eval, Array.replicate]) ?_
  simp only [Bool.false_eq_true, if_false]
  refine wpS_of_wp (wp_skip ?_)
  cases c₀
  simp_all [bodyPostS, results, Tryd.results10]

theorem clo_BookEntries (p0 p1 : Addr) (w : World) :
    CallsD Tryd.prog 14 #[.pointer (some p0), .pointer (some p1)] .returning w fun e u' w' => e = .returned (.tuple #[]) ∧ u' = .returning ∧ w' = w := by
  refine callsD_of_wpS Tryd.func14 rfl fun c₀ cs hu => ?_
  apply wpS_seq
  apply wpS_region
  simp [wpOpsS, go_sem, recoverD, hu, Tryd.ntmps14, Exit.thenS]
  refine wpS_cond (t := false) (by simp [Act.eval, Array.replicate]) ?_
  simp only [Bool.false_eq_true, if_false]
  refine wpS_of_wp (wp_skip ?_)
  cases c₀
  simp_all [bodyPostS, results, Tryd.results14]

theorem doorEntries_any (pb : Nat) (v : Value) (W : World) (hc : W.cell? ⟨pb, 0, none⟩ = some v) :
    Calls Tryd.prog 15 #[.pointer (some ⟨pb, 0, none⟩)] W fun e w' => e = .returned v ∧ RowKit.Below W.heap.size W w' := by
  go_enter Tryd.func15, Tryd.ntmps15
  go_wp2
  go_ret
  exact ⟨rfl, RowKit.Below.refl _ _⟩
def laidB (w : World) : World := (w.alloc (.cells #[.slice none 0 0] 23)).alloc (.cells #[.bool false] 4)
theorem laidB_facts (w : World) : (laidB w).heap.size = w.heap.size + 2 ∧ (laidB w).rowIs w.heap.size 23 1 (fun j => (#[.slice none 0 0] : Array Value).getD j undef) ∧ (laidB w).rowIs (w.heap.size + 1) 4 1 (fun j => (#[.bool false] : Array Value).getD j undef) ∧ RowKit.Below w.heap.size w (laidB w) := by
  have h1 := row_lit w #[.slice none 0 0] 23
  have h2 := row_lit (w.alloc (.cells #[.slice none 0 0] 23)) #[.bool false] 4
  rw [World.size_alloc] at h2
  exact ⟨by simp [laidB], h1.alloc _, h2, ((RowKit.Below.refl _ _).alloc (Nat.le_refl _) _).alloc (by simp) _⟩
theorem ens_put {w w' : World} {v : Value} {l : List En} {B : Nat} (h : ∃ B0, w.ownsRow B0 33 4 v l.length (ents l) ∧ B + 2 ≤ B0) (hk : KeptBut (fun q => q = B ∨ q = B + 1) w w') : EnS w' v l := by
  obtain ⟨B0, ho, hB⟩ := h
  have hE := ens_own ho
  obtain ⟨a, c, rfl, hE2⟩ := hE
  refine ⟨a, c, rfl, fun h0 => ?_⟩
  obtain ⟨g, rfl, hg, hc⟩ := hE2 h0
  have hne : ¬ (g = B ∨ g = B + 1) := fun e => by
    rcases ho.2 with ⟨hv, h⟩ | ⟨g', cap, cur, hv, hB', _⟩
    · injection hv with h1; cases h1
    · injection hv with h1
      injection h1 with h1
      injection h1 with h1
      omega
  exact ⟨g, rfl, Nat.lt_of_lt_of_le hg hk.2.2.2.1, fun i hi j hj => by rw [World.cell?_of_block (hk.2.2.2.2 g hg hne)]; exact hc i hi j hj⟩
set_option maxRecDepth 100000 in
theorem bookFind_yes (v : Value) (L : List UInt8) (hL : L.length ≤ 640) (h16 : L.length % 16 = 0) (key : Int) (w : World) (hD : DataAt w v L) (hT : TabB w) :
    Calls Tryd.prog 6 #[v, .int .u64 key] w fun e w' => ∃ u, e = .returned (.tuple #[u, .bool true]) ∧ ∃ l, EnS w' u l ∧ l.Perm (ofKey (readL L (L.length / 16)) key) ∧ SortW l ∧ RowKit.Below w.heap.size w w' := by
  have hmf := mkf Tryd.prog
  obtain ⟨hs, hr1, hr2, hB⟩ := laidB_facts w
  have hlo := Lib.hid (loadBytes_yes v L (laidB w) (hD.below hB) hL h16 (hT.below hB))
  clear hD hT
  go_enter_defers Tryd.func6, Tryd.ntmps6
  go_upto_region 2 with (fail)
  change Code.wp _ _ _ _ (laidB w)
  generalize laidB w = w1 at *
  go_wp2_with (fail)
  refine hlo.out.mono ?_
  rintro e w2 ⟨pb, vb, lb, rfl, ⟨hpb, hcb, hE, hp, hso⟩, hb2⟩
  have hlb : lb.length ≤ 1000 := by rw [hp.length_eq, readL_len]; omega
  have hfi := Lib.hid (find_any pb vb lb key hlb w2 hpb hcb hE hso)
  have q1 := rowIs_below hr1 hb2 (by omega)
  have q2 := rowIs_below hr2 hb2 (by omega)
  have qB := hB.trans (hb2.mono hB.size)
  replace hcb := Lib.hid hcb
  have hs2 : w.heap.size + 2 ≤ w2.heap.size := by have := hb2.size; omega
  clear hr1 hr2 hB hb2 hlo
  go_wp2_with (fail)
  refine hfi.out.mono ?_
  rintro e w3 ⟨u, rfl, l', hE3, hp3, hso3, hb3⟩
  have hl3 : l'.length ≤ 1000 := by have := hp3.length_eq; have h2 := ofKey_le lb key; omega
  have hen := Lib.hid (entries_any _ _ w3 hE3 hl3)
  replace q1 := rowIs_below q1 hb3 q1.lt
  replace q2 := rowIs_below q2 hb3 q2.lt
  replace qB := qB.trans (hb3.mono qB.size)
  replace hs2 := Nat.le_trans hs2 hb3.size
  replace hp := Lib.hid hp
  replace hp3 := Lib.hid hp3
  replace hso := Lib.hid hso
  replace hso3 := Lib.hid hso3
  clear hfi hcb hE hE3 hb3 hpb
  go_wp2_with (go_at_call 12; refine hen.out.mono ?_; rintro e w4 ⟨u4, rfl, ho4, hb4⟩; (obtain ⟨va, vn, vc, hv4⟩ : ∃ a n c, u4 = Value.slice a n c := (by rcases ho4.2 with ⟨hv, _⟩ | ⟨_, _, _, hv, _⟩ <;> exact ⟨_, _, _, hv⟩)); subst hv4; replace q1 := rowIs_below q1 hb4 q1.lt; replace q2 := rowIs_below q2 hb4 q2.lt; replace qB := qB.trans (hb4.mono qB.size); have k1 := q1.cell (i := 0) (by omega); have k2 := q2.cell (i := 0) (by omega); have f1 := q1.frozen 0; have f2 := q2.frozen 0; have p1 := (q1.set 0 (.slice va vn vc)).setOther (a := ⟨w.heap.size + 1, 0, none⟩) (by simp) (.bool true); have p2 := (q2.setOther (a := ⟨w.heap.size, 0, none⟩) (by simp) (.slice va vn vc)).set 0 (.bool true); have pB := (qB.setCell (p := ⟨w.heap.size, 0, none⟩) (by simp) (.slice va vn vc)).setCell (p := ⟨w.heap.size + 1, 0, none⟩) (by simp) (.bool true); have d1 := p1.cell (i := 0) (by omega); have d2 := p2.cell (i := 0) (by omega); have pE := Lib.hid (ens_put (B := w.heap.size) ⟨_, ho4, hs2⟩ (w' := (w4.setCell ⟨w.heap.size, 0, none⟩ (.slice va vn vc)).setCell ⟨w.heap.size + 1, 0, none⟩ (.bool true)) ⟨rfl, rfl, rfl, by simp, fun k hk hp => by rw [Below.heap_setCell _ _ _ _ (by simp; omega), Below.heap_setCell _ _ _ _ (by simp; omega)]⟩); replace pB := Lib.hid pB; clear p1 p2 q1 q2 qB ho4 hb4 hen; simp only [if_pos] at d1 d2)
  refine leaves_cons (f := 10) (args := #[.pointer (some ⟨w.heap.size, 0, none⟩), .pointer (some ⟨w.heap.size + 1, 0, none⟩)]) (by simp) (by simp [go_sem]) ?_; refine (clo_BookFind _ _ _).mono ?_; rintro e u' w'' ⟨rfl, rfl, rfl⟩
  simp [Leaves, settle, results, Tryd.results6, asAddr, go_sem, d1, d2]
  exact ⟨l', pE.out, hp3.out.trans (hp.out.filter _), hso3.out, pB.out⟩
set_option maxRecDepth 100000 in
theorem bookFind_no (v : Value) (L : List UInt8) (hL : L.length ≤ 640) (h16 : L.length % 16 ≠ 0) (key : Int) (w : World) (hD : DataAt w v L) :
    Calls Tryd.prog 6 #[v, .int .u64 key] w fun e w' => e = .returned (.tuple #[.slice none 0 0, .bool false]) ∧ RowKit.Below w.heap.size w w' := by
  have hmf := mkf Tryd.prog
  obtain ⟨hs, hr1, hr2, hB⟩ := laidB_facts w
  have hlo := Lib.hid (loadBytes_no v L (laidB w) (hD.below hB) hL h16)
  clear hD
  go_enter_defers Tryd.func6, Tryd.ntmps6
  go_upto_region 2 with (fail)
  change Code.wp _ _ _ _ (laidB w)
  generalize laidB w = w1 at *
  go_wp2_with (fail)
  refine hlo.out.mono ?_
  rintro e w2 ⟨⟨ad, rfl⟩, hb2⟩
  have q1 := rowIs_below hr1 hb2 (by omega)
  have q2 := rowIs_below hr2 hb2 (by omega)
  have qB := hB.trans (hb2.mono hB.size)
  have k1 := q1.cell (i := 0) (by omega)
  have k2 := q2.cell (i := 0) (by omega)
  have f1 := q1.frozen 0
  have f2 := q2.frozen 0
  have p1 := (q1.set 0 (.slice none 0 0)).setOther (a := ⟨w.heap.size + 1, 0, none⟩) (by simp) (.bool false)
  have p2 := (q2.setOther (a := ⟨w.heap.size, 0, none⟩) (by simp) (.slice none 0 0)).set 0 (.bool false)
  have pB := (qB.setCell (p := ⟨w.heap.size, 0, none⟩) (by simp) (.slice none 0 0)).setCell (p := ⟨w.heap.size + 1, 0, none⟩) (by simp) (.bool false)
  have d1 := p1.cell (i := 0) (by omega)
  have d2 := p2.cell (i := 0) (by omega)
  replace pB := Lib.hid pB
  clear hr1 hr2 hB hb2 hlo p1 p2 q1 q2 qB
  simp only [if_pos] at d1 d2
  go_wp2_with (fail)
  refine leaves_cons (f := 10) (args := #[.pointer (some ⟨w.heap.size, 0, none⟩), .pointer (some ⟨w.heap.size + 1, 0, none⟩)]) (by simp) (by simp [go_sem]) ?_; refine (clo_BookFind _ _ _).mono ?_; rintro e u' w'' ⟨rfl, rfl, rfl⟩
  simp [Leaves, settle, results, Tryd.results6, asAddr, go_sem, d1, d2]
  exact pB.out
set_option maxRecDepth 100000 in
theorem bookEntries_yes (v : Value) (L : List UInt8) (hL : L.length ≤ 640) (h16 : L.length % 16 = 0)  (w : World) (hD : DataAt w v L) (hT : TabB w) :
    Calls Tryd.prog 7 #[v] w fun e w' => ∃ u, e = .returned (.tuple #[u, .bool true]) ∧ ∃ l, EnS w' u l ∧ l.Perm (readL L (L.length / 16)) ∧ SortK l ∧ RowKit.Below w.heap.size w w' := by
  have hmf := mkf Tryd.prog
  obtain ⟨hs, hr1, hr2, hB⟩ := laidB_facts w
  have hlo := Lib.hid (loadBytes_yes v L (laidB w) (hD.below hB) hL h16 (hT.below hB))
  clear hD hT
  go_enter_defers Tryd.func7, Tryd.ntmps7
  go_upto_region 2 with (fail)
  change Code.wp _ _ _ _ (laidB w)
  generalize laidB w = w1 at *
  go_wp2_with (fail)
  refine hlo.out.mono ?_
  rintro e w2 ⟨pb, vb, lb, rfl, ⟨hpb, hcb, hE, hp, hso⟩, hb2⟩
  have hlb : lb.length ≤ 1000 := by rw [hp.length_eq, readL_len]; omega
  have hfi := Lib.hid (doorEntries_any pb vb w2 hcb)
  have q1 := rowIs_below hr1 hb2 (by omega)
  have q2 := rowIs_below hr2 hb2 (by omega)
  have qB := hB.trans (hb2.mono hB.size)
  replace hcb := Lib.hid hcb
  have hs2 : w.heap.size + 2 ≤ w2.heap.size := by have := hb2.size; omega
  clear hr1 hr2 hB hb2 hlo
  go_wp2_with (fail)
  refine hfi.out.mono ?_
  rintro e w3 ⟨rfl, hb3⟩
  have hE3 := hE.below hb3
  have hp3 : lb.Perm lb := List.Perm.refl _
  have hso3 : SortK lb := hso
  have hl3 : lb.length ≤ 1000 := by have := hp3.length_eq; omega
  have hen := Lib.hid (entries_any _ _ w3 hE3 hl3)
  replace q1 := rowIs_below q1 hb3 q1.lt
  replace q2 := rowIs_below q2 hb3 q2.lt
  replace qB := qB.trans (hb3.mono qB.size)
  replace hs2 := Nat.le_trans hs2 hb3.size
  replace hp := Lib.hid hp
  replace hp3 := Lib.hid hp3
  replace hso := Lib.hid hso
  replace hso3 := Lib.hid hso3
  clear hfi hcb hE hE3 hb3 hpb
  go_wp2_with (go_at_call 12; refine hen.out.mono ?_; rintro e w4 ⟨u4, rfl, ho4, hb4⟩; (obtain ⟨va, vn, vc, hv4⟩ : ∃ a n c, u4 = Value.slice a n c := (by rcases ho4.2 with ⟨hv, _⟩ | ⟨_, _, _, hv, _⟩ <;> exact ⟨_, _, _, hv⟩)); subst hv4; replace q1 := rowIs_below q1 hb4 q1.lt; replace q2 := rowIs_below q2 hb4 q2.lt; replace qB := qB.trans (hb4.mono qB.size); have k1 := q1.cell (i := 0) (by omega); have k2 := q2.cell (i := 0) (by omega); have f1 := q1.frozen 0; have f2 := q2.frozen 0; have p1 := (q1.set 0 (.slice va vn vc)).setOther (a := ⟨w.heap.size + 1, 0, none⟩) (by simp) (.bool true); have p2 := (q2.setOther (a := ⟨w.heap.size, 0, none⟩) (by simp) (.slice va vn vc)).set 0 (.bool true); have pB := (qB.setCell (p := ⟨w.heap.size, 0, none⟩) (by simp) (.slice va vn vc)).setCell (p := ⟨w.heap.size + 1, 0, none⟩) (by simp) (.bool true); have d1 := p1.cell (i := 0) (by omega); have d2 := p2.cell (i := 0) (by omega); have pE := Lib.hid (ens_put (B := w.heap.size) ⟨_, ho4, hs2⟩ (w' := (w4.setCell ⟨w.heap.size, 0, none⟩ (.slice va vn vc)).setCell ⟨w.heap.size + 1, 0, none⟩ (.bool true)) ⟨rfl, rfl, rfl, by simp, fun k hk hp => by rw [Below.heap_setCell _ _ _ _ (by simp; omega), Below.heap_setCell _ _ _ _ (by simp; omega)]⟩); replace pB := Lib.hid pB; clear p1 p2 q1 q2 qB ho4 hb4 hen; simp only [if_pos] at d1 d2)
  refine leaves_cons (f := 14) (args := #[.pointer (some ⟨w.heap.size, 0, none⟩), .pointer (some ⟨w.heap.size + 1, 0, none⟩)]) (by simp) (by simp [go_sem]) ?_; refine (clo_BookEntries _ _ _).mono ?_; rintro e u' w'' ⟨rfl, rfl, rfl⟩
  simp [Leaves, settle, results, Tryd.results7, asAddr, go_sem, d1, d2]
  exact ⟨lb, pE.out, hp.out, hso3.out, pB.out⟩
set_option maxRecDepth 100000 in
theorem bookEntries_no (v : Value) (L : List UInt8) (hL : L.length ≤ 640) (h16 : L.length % 16 ≠ 0)  (w : World) (hD : DataAt w v L) :
    Calls Tryd.prog 7 #[v] w fun e w' => e = .returned (.tuple #[.slice none 0 0, .bool false]) ∧ RowKit.Below w.heap.size w w' := by
  have hmf := mkf Tryd.prog
  obtain ⟨hs, hr1, hr2, hB⟩ := laidB_facts w
  have hlo := Lib.hid (loadBytes_no v L (laidB w) (hD.below hB) hL h16)
  clear hD
  go_enter_defers Tryd.func7, Tryd.ntmps7
  go_upto_region 2 with (fail)
  change Code.wp _ _ _ _ (laidB w)
  generalize laidB w = w1 at *
  go_wp2_with (fail)
  refine hlo.out.mono ?_
  rintro e w2 ⟨⟨ad, rfl⟩, hb2⟩
  have q1 := rowIs_below hr1 hb2 (by omega)
  have q2 := rowIs_below hr2 hb2 (by omega)
  have qB := hB.trans (hb2.mono hB.size)
  have k1 := q1.cell (i := 0) (by omega)
  have k2 := q2.cell (i := 0) (by omega)
  have f1 := q1.frozen 0
  have f2 := q2.frozen 0
  have p1 := (q1.set 0 (.slice none 0 0)).setOther (a := ⟨w.heap.size + 1, 0, none⟩) (by simp) (.bool false)
  have p2 := (q2.setOther (a := ⟨w.heap.size, 0, none⟩) (by simp) (.slice none 0 0)).set 0 (.bool false)
  have pB := (qB.setCell (p := ⟨w.heap.size, 0, none⟩) (by simp) (.slice none 0 0)).setCell (p := ⟨w.heap.size + 1, 0, none⟩) (by simp) (.bool false)
  have d1 := p1.cell (i := 0) (by omega)
  have d2 := p2.cell (i := 0) (by omega)
  replace pB := Lib.hid pB
  clear hr1 hr2 hB hb2 hlo p1 p2 q1 q2 qB
  simp only [if_pos] at d1 d2
  go_wp2_with (fail)
  refine leaves_cons (f := 14) (args := #[.pointer (some ⟨w.heap.size, 0, none⟩), .pointer (some ⟨w.heap.size + 1, 0, none⟩)]) (by simp) (by simp [go_sem]) ?_; refine (clo_BookEntries _ _ _).mono ?_; rintro e u' w'' ⟨rfl, rfl, rfl⟩
  simp [Leaves, settle, results, Tryd.results7, asAddr, go_sem, d1, d2]
  exact pB.out
end Go.Proofs.YtpoomblloahahaaDoor

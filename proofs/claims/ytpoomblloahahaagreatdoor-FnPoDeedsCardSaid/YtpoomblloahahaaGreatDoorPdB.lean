/- A move is put into a book. -/
import Derived.Test.YtpoomblloahahaaGreatDoorPdA
namespace Go.Proofs.YtpoomblloahahaaGreatDoor
open Go.Proofs Go.Shelf Go.Sort Go.Lib Go.ChangeShapes Go.WideShapes Go.ChangeAt Go.RowKit Go.PlainAid
set_option maxHeartbeats 2000000
set_option linter.unusedVariables false
set_option linter.unusedSimpArgs false

theorem keptT_alloc (w : World) (o : Obj) : KeptT w (w.alloc o) := KeptT.of_below ((RowKit.Below.refl w.heap.size w).alloc (Nat.le_refl _) o)
theorem keptT_set {w0 w : World} (h : KeptT w0 w) {pb : Nat} {n : Nat} {F : Nat → Value} (hr : w.rowIs pb 71 n F) (j : Nat) (v : Value) : KeptT w0 (w.setCell ⟨pb, j, none⟩ v) := h.trans ⟨by simp, fun k cc T h0 h1 h2 => by
  rw [Below.heap_setCell _ _ _ _ (by show k ≠ pb; intro e; rw [e, rowIs_block hr] at h0; injection h0 with h0; injection h0 with _ h0; exact h2 h0.symm)]; exact h0⟩
set_option maxRecDepth 100000 in
theorem addMove_any (pb B0 : Nat) (l : List En) (key wt a b q : Int) (ha : 0 ≤ a ∧ a < 64) (hb : 0 ≤ b ∧ b < 64) (hq : q = 0 ∨ 2 ≤ q ∧ q ≤ 5) (hl : l.length < 1000) (w : World) (hB : Bk pb B0 l w) (hB0 : B0 ≤ pb) :
    Calls Tryz.prog 9 #[.pointer (some ⟨pb, 0, none⟩), .int .u64 key, mvV a b q, .int .u16 wt] w fun e w' => e = .returned (.tuple #[]) ∧ ∃ l' : List En, l'.Perm (l ++ [(key, b + 64 * a + 4096 * polP q, wt, 0)]) ∧ Bk pb B0 l' w' ∧ RowKit.Below B0 w w' ∧ KeptT w w' := by
  have hto := Lib.hid (toPoly_any a b q ha hb hq)
  rw [mvV_lit] at hto
  rw [mvV_lit]
  have k1 := row_lit w #[.pointer (some ⟨pb, 0, none⟩)] 42
  have k2 := mv_row (w.alloc (.cells #[.pointer (some ⟨pb, 0, none⟩)] 42)) a b q
  rw [World.size_alloc] at k2
  have kB := ((RowKit.Below.refl w.heap.size w).alloc (Nat.le_refl _) (.cells #[.pointer (some ⟨pb, 0, none⟩)] 42)).alloc (by simp) (.cells #[Value.pointer none, Value.pointer none, Value.string ⟨#[]⟩, Value.string ⟨#[]⟩, Value.map none, Value.slice none 0 0, Value.int .u64 0, Value.int .u16 0, Value.int .i8 a, Value.int .i8 b, Value.int .i8 q] 57)
  have k1' := (k1.alloc (.cells #[Value.pointer none, Value.pointer none, Value.string ⟨#[]⟩, Value.string ⟨#[]⟩, Value.map none, Value.slice none 0 0, Value.int .u64 0, Value.int .u16 0, Value.int .i8 a, Value.int .i8 b, Value.int .i8 q] 57)).congr (g := fun _ => .pointer (some ⟨pb, 0, none⟩)) (fun j hj => by (have hj : j < 1 := hj); (obtain rfl : j = 0 := by omega); rfl)
  clear k1 k2
  obtain ⟨v, hR, hO⟩ := hB
  obtain ⟨va, vn, vc, rfl⟩ : ∃ a n c, v = .slice a n c := by
    rcases hO.2 with ⟨hv, _⟩ | ⟨_, _, _, hv, _⟩ <;> exact ⟨_, _, _, hv⟩
  have hlt := hR.lt
  go_enter Tryz.func9, Tryz.ntmps9
  go_wp2_with (fail)
  refine (hto.out _).mono ?_
  rintro e w2 ⟨rfl, hb2⟩
  have kB2 := kB.trans (hb2.mono kB.size)
  have k1 := rowIs_below k1' hb2 k1'.lt
  have hR2 := rowIs_below hR kB2 hR.lt
  have hO2 := own_below hO kB2
  have hs2 : w.heap.size + 2 ≤ w2.heap.size := by have := hb2.size; simp at this; omega
  clear hto kB k1' hb2 hR hO
  generalize hk : b + 64 * a + 4096 * polP q = code at *
  generalize hBs : w.heap.size = Bs at *
  have k3 := row_lit w2 #[.int .u64 key, .int .u16 code, .int .u16 wt, .int .u32 0] 69
  have kB3 := kB2.alloc (by omega) (.cells #[.int .u64 key, .int .u16 code, .int .u16 wt, .int .u32 0] 69)
  have k1b := k1.alloc (.cells #[.int .u64 key, .int .u16 code, .int .u16 wt, .int .u32 0] 69)
  have hR3 := hR2.alloc (.cells #[.int .u64 key, .int .u16 code, .int .u16 wt, .int .u32 0] 69)
  have hO3 := hO2.alloc (.cells #[.int .u64 key, .int .u16 code, .int .u16 wt, .int .u32 0] 69)
  have hs3 : w2.heap.size + 1 = (w2.alloc (.cells #[.int .u64 key, .int .u16 code, .int .u16 wt, .int .u32 0] 69)).heap.size := by simp
  go_upto_region 2 with (fail)
  generalize hw3 : w2.alloc (.cells #[.int .u64 key, .int .u16 code, .int .u16 wt, .int .u32 0] 69) = w3 at *
  clear hw3 k1 hR2 hO2 kB2
  have c0 : w3.cell? ⟨w2.heap.size, 0, none⟩ = some (.int .u64 key) := k3.cell (i := 0) (by simp)
  have c1 : w3.cell? ⟨w2.heap.size, 1, none⟩ = some (.int .u16 code) := k3.cell (i := 1) (by simp)
  have c2 : w3.cell? ⟨w2.heap.size, 2, none⟩ = some (.int .u16 wt) := k3.cell (i := 2) (by simp)
  have c3 : w3.cell? ⟨w2.heap.size, 3, none⟩ = some (.int .u32 0) := k3.cell (i := 3) (by simp)
  generalize w2.heap.size = E2 at *
  clear k3
  have yp := k1b.cell (i := 0) (by simp)
  have yv := hR3.cell (i := 0) (by omega)
  have yf := hR3.frozen 0
  have hkw : KeptT w w3 := KeptT.of_below (by rw [hBs]; exact kB3)
  have kB0 : RowKit.Below B0 w w3 := kB3.mono (by omega)
  have hB3 : B0 ≤ w3.heap.size := by omega
  have bR := rowIs_block hR3
  have bK := rowIs_block k1b
  have hone := one_enc (key, code, wt, 0)
  unfold encE at hone
  have hll : l.length < 1000000000 := by omega
  have hne : Bs ≠ pb := by omega
  have hx : ∀ (v : Value) (wz : World), wz.ownsRow B0 69 4 v (l.length + 1) (ents l ++ [.int .u64 key, .int .u16 code, .int .u16 wt, .int .u32 0]) → wz.ownsRow B0 69 4 v (l ++ [(key, code, wt, 0)]).length (ents (l ++ [(key, code, wt, 0)])) := fun v wz h => by
    rw [ents_app, List.length_append]; exact h
  replace hx := Lib.hid hx
  replace hkw := Lib.hid hkw
  replace kB0 := Lib.hid kB0
  have p1 : pb < w3.heap.size := by omega
  have p2 : Bs < w3.heap.size := by omega
  have p3 : E2 < w3.heap.size := by omega
  replace hk := Lib.hid hk
  clear kB3 hs2 hs3 hR3 k1b
  go_region_law ((refine step_app2 rfl (.tmp 18) (.tmp 20) 62 rfl B0 69 (.agg #[.int .u64 0, .int .u16 0, .int .u16 0, .int .u32 0]) 4 16 Tryz.underlying62 infoPe rfl (by decide) (.slice va vn vc) l.length (ents l) (by simp [Act.eval, Act.put]) (w := w3) hO3 hB3 [.int .u64 key, .int .u16 code, .int .u16 wt, .int .u32 0] hone rfl w3.heap.size rfl (by simp [Act.eval, Act.put]) hll (by decide) ?_; intro va' vn' vc' w7 hown7 hb7 hkp; have hown8 := Lib.hid (hx.out _ _ hown7); have tE := rowIs_of_block (hkp pb _ _ bR (by decide)); have tK := rowIs_of_block (hkp Bs _ _ bK (by decide)); have tT := hkw.out.trans (⟨hb7.size, fun k cc T h h1 _ => hkp k cc T h h1⟩ : KeptT w3 w7); have tB := kB0.out.trans hb7; clear hown7 hb7 hkp hx hone bR bK; have yv7 := tE.cell (i := 0) (by omega); have yf7 := tE.frozen 0; have yp7 := tK.cell (i := 0) (by simp); have nE := Lib.hid ((tE.set 0 (.slice va' vn' vc')).congr (g := fun _ => .slice va' vn' vc') (fun j hj => by (obtain rfl : j = 0 := by omega); simp)); have nK := Lib.hid (tK.setOther (a := ⟨pb, 0, none⟩) hne (.slice va' vn' vc')); have nT := Lib.hid (keptT_set tT tE 0 (.slice va' vn' vc')); have nB := Lib.hid (tB.setCell (p := ⟨pb, 0, none⟩) hB0 (.slice va' vn' vc')); have nO := Lib.hid (own_kept (p := fun q => q = pb) hown8.out (⟨rfl, rfl, rfl, by simp, fun q hq hne => Below.heap_setCell _ _ _ _ (by simpa using hne)⟩ : KeptBut (fun q => q = pb) w7 (w7.setCell ⟨pb, 0, none⟩ (.slice va' vn' vc'))) (fun q hq cc hcc => by (have := rowIs_block tE); (rw [hq] at hcc); (rw [this] at hcc); cases hcc)); clear tE tB tK tT))
  all_goals
    generalize hw8 : w7.setCell ⟨pb, 0, none⟩ (.slice va' vn' vc') = w8 at *
    clear c0 c1 c2 c3 yp yv yf yv7 yf7 yp7 hO3 hown8 hkw kB0 hw8
    have zp := nK.out.cell (i := 0) (by simp)
    have zv := nE.out.cell (i := 0) (by omega)
    have hsort := Lib.hid (sortOwn_A B0 Bs pb _ (l ++ [(key, code, wt, 0)]) w w8 nO.out nE.out (nK.out.congr (fun j hj => rfl)) (by simp; omega) nB.out (by have := nE.out.lt; omega))
    clear nE nK nO nB
    go_wp2_with (go_at_call 19; go_loud (refine hsort.out.mono ?_; rintro e w6 ⟨rfl, l', hp, hBk, hB6, hT6⟩); clear hsort zp zv; have hfin := Lib.hid (And.intro hp (And.intro hBk (And.intro hB6 (nT.out.trans hT6)))); clear hp hBk hB6 hT6 nT)
    go_end0
    exact ⟨rfl, l', by rw [hk.out]; exact hfin.out⟩
end Go.Proofs.YtpoomblloahahaaGreatDoor

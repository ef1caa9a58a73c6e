/- The text of a move between two squares: how the reference reads a text of the right form. -/
import Derived.Test.YtoigijloeillbaaDoorUcC
namespace Go.Proofs.YtoigijloeillbaaDoor
open Go.ChangeShapes Go.WideShapes Go.ChangeAt Go.RowKit Go.PlainAid
set_option maxHeartbeats 1000000
set_option linter.unusedVariables false
set_option linter.unusedSimpArgs false
attribute [local go_sem] tx_list tx_size bt_tx

def mvI (a b p : Int) : Nat → Value
  | 0 => .int .i64 a
  | 1 => .int .i64 b
  | _ => .int .i64 p
def pSo (q : Int) (k : Nat) : Int := if 2 ≤ q ∧ q < 2 + k then q else 0
theorem pSo_0 (q : Int) : pSo q 0 = 0 := by unfold pSo; rw [if_neg (by omega)]
theorem pSo_4 (q : Int) (h : q = 0 ∨ 2 ≤ q ∧ q ≤ 5) : pSo q 4 = q := by unfold pSo; split <;> omega
theorem pSo_hit (q : Int) (k : Nat) (h : q = 2 + k) : pSo q (k + 1) = 2 + k := by unfold pSo; rw [if_pos (by omega)]; exact h
theorem pSo_miss (q : Int) (k : Nat) (h : q ≠ 2 + k) : pSo q (k + 1) = pSo q k := by
  unfold pSo
  by_cases h1 : 2 ≤ q ∧ q < 2 + k
  · rw [if_pos h1, if_pos (by omega)]
  · rw [if_neg h1, if_neg (by omega)]
theorem pmap_val (c : Int) : pmap c = 0 ∨ 2 ≤ pmap c ∧ pmap c ≤ 5 := by unfold pmap; repeat' split <;> omega
theorem pmap_k (c : Int) : (pmap c = 2 ↔ c = 113) ∧ (pmap c = 3 ↔ c = 114) ∧ (pmap c = 4 ↔ c = 98) ∧ (pmap c = 5 ↔ c = 110) := by
  unfold pmap
  refine ⟨⟨fun h => ?_, fun h => ?_⟩, ⟨fun h => ?_, fun h => ?_⟩, ⟨fun h => ?_, fun h => ?_⟩, ⟨fun h => ?_, fun h => ?_⟩⟩
  all_goals first
    | (subst h; rfl)
    | (repeat' split at h) <;> omega
set_option maxRecDepth 100000 in
theorem split_2 (L : List UInt8) (h : isSq (bi L 0) (bi L 1) = true) (h2 : isSq (bi L 2) (bi L 3) = true) (hl : L.length = 4) (w : World) :
    Calls Tryd.prog 12 #[.string (tx L)] w fun e w' => e = .returned (.tuple #[mv3 (sq1 L) (q2 L) 0, .bool true]) ∧ Below w.heap.size w w' := by
  have d1 : ((L.length : Int) != 4) = false := by simp; omega
  have d3 : ((L.length : Int) == 5) = false := by simp; omega
  have h4 : 4 ≤ L.length := by omega
  have g0 := g_at L 0
  have g1 := g_at L 1
  have g2 := g_at L 2
  have g3 := g_at L 3
  replace h := sqYes_of h
  replace h2 := sqYes_of h2
  have hx := dec_small (bi L 0 - 97) (by omega) (by omega)
  have hy := dec_small (bi L 1 - 49) (by omega) (by omega)
  have hz := dec_small (bi L 2 - 97) (by omega) (by omega)
  have ht := dec_small (bi L 3 - 49) (by omega) (by omega)
  rw [show sq1 L = 8 * (bi L 1 - 49) + (bi L 0 - 97) by unfold sq1; omega, show q2 L = 8 * (bi L 3 - 49) + (bi L 2 - 97) by unfold q2; omega]
  generalize hx0 : bi L 0 - 97 = x0 at *
  generalize hy0 : bi L 1 - 49 = y0 at *
  generalize hx1 : bi L 2 - 97 = x1 at *
  generalize hy1 : bi L 3 - 49 = y1 at *
  generalize bi L 0 = c0 at *
  generalize bi L 1 = c1 at *
  generalize bi L 2 = c2 at *
  generalize bi L 3 = c3 at *

  obtain ⟨p1, p2⟩ := hx
  obtain ⟨p3, p4⟩ := hy
  obtain ⟨p5, p6⟩ := hz
  obtain ⟨p7, p8⟩ := ht
  have hb : 0 ≤ x0 ∧ x0 ≤ 7 ∧ 0 ≤ y0 ∧ y0 ≤ 7 := by omega
  have hbb : 0 ≤ x1 ∧ x1 ≤ 7 ∧ 0 ≤ y1 ∧ y1 ≤ 7 := by omega
  have k0 := (row_lit w #[.int .i64 0, .int .i64 0, .int .i64 0] 25).alloc (.cells #[.int .i64 0, .int .i64 0] 73)
  have k1 := row_lit (w.alloc (.cells #[.int .i64 0, .int .i64 0, .int .i64 0] 25)) #[.int .i64 0, .int .i64 0] 73
  have kB : Below w.heap.size w ((w.alloc (.cells #[.int .i64 0, .int .i64 0, .int .i64 0] 25)).alloc (.cells #[.int .i64 0, .int .i64 0] 73)) := ((Below.refl _ _).alloc (Nat.le_refl _) _).alloc (by simp) _
  rw [World.size_alloc] at k1
  go_enter Tryd.func12, Tryd.ntmps12
  go_wp2
  generalize ((w.alloc (.cells #[.int .i64 0, .int .i64 0, .int .i64 0] 25)).alloc (.cells #[.int .i64 0, .int .i64 0] 73)) = w1 at *
  go_loopw [5] (fun i wr => (i = .int .i64 0 ∧ wr.rowIs (w.heap.size + 1) 73 2 (atF 0 0) ∨ i = .int .i64 1 ∧ wr.rowIs (w.heap.size + 1) 73 2 (atF (8 * y0 + x0) 0) ∨ i = .int .i64 2 ∧ wr.rowIs (w.heap.size + 1) 73 2 (atF (8 * y0 + x0) (8 * y1 + x1))) ∧ wr.rowIs w.heap.size 25 3 zero3 ∧ Below w.heap.size w wr) (fun i _ => 2 - (intOf i).toNat)
  case atStart => exact ⟨.inl ⟨rfl, k1.congr fun j hj => by (have hj : j < 2 := hj); (have : j = 0 ∨ j = 1 := (by omega)); rcases this with rfl | rfl <;> rfl⟩, k0, kB⟩
  case round =>
    clear k0 k1 kB
    obtain ⟨⟨rfl, q1⟩ | ⟨rfl, q1⟩ | ⟨rfl, q1⟩, q0, qB⟩ := hrel
    all_goals have hdr : ∀ n, (Below w.heap.size w (wr.drewN n) ∧ (wr.drewN n).rowIs w.heap.size 25 3 zero3) ∧ (wr.drewN n).rowIs (w.heap.size + 1) 73 2 _ := fun n => ⟨⟨qB.trans ⟨rfl, rfl, rfl, Nat.le_refl _, fun _ _ => rfl⟩, q0.of_block rfl⟩, q1.of_block rfl⟩
    all_goals replace hdr := Lib.hid hdr
    · clear q0 q1 qB
      go_wp2_with (fail)
      go_quiet (fail)
      generalize hW : World.drewN wr _ = w3
      have hb3 : (Below w.heap.size w w3 ∧ w3.rowIs w.heap.size 25 3 zero3) ∧ w3.rowIs (w.heap.size + 1) 73 2 (atF 0 0) := by rw [← hW]; exact hdr.out _
      clear hdr hW
      have xc : w3.cell? ⟨w.heap.size + 1, 0, none⟩ = some (.int .i64 0) := hb3.2.cell (i := 0) (by omega)
      have xf := hb3.2.frozen 0
      have hn := Lib.hid (hb3.1.1.setCell (p := ⟨w.heap.size + 1, 0, none⟩) (by simp) (.int .i64 (8 * y0 + x0)))
      have hn2 := Lib.hid (hb3.1.2.setOther (a := ⟨w.heap.size + 1, 0, none⟩) (by simp) (.int .i64 (8 * y0 + x0)))
      have hn3 := Lib.hid ((hb3.2.set 0 (.int .i64 (8 * y0 + x0))).congr (g := atF (8 * y0 + x0) 0) fun j hj => by (have : j = 0 ∨ j = 1 := (by omega)); rcases this with rfl | rfl <;> rfl)
      clear hb3
      go_wp2_with (fail)
      exact ⟨⟨.inr (.inl ⟨by go_num, hn3.out⟩), hn2.out, hn.out⟩, by simp [intOf]⟩
    · clear q0 q1 qB
      go_wp2_with (fail)
      go_quiet (fail)
      generalize hW : World.drewN wr _ = w3
      have hb3 : (Below w.heap.size w w3 ∧ w3.rowIs w.heap.size 25 3 zero3) ∧ w3.rowIs (w.heap.size + 1) 73 2 (atF (8 * y0 + x0) 0) := by rw [← hW]; exact hdr.out _
      clear hdr hW
      have xc : w3.cell? ⟨w.heap.size + 1, 1, none⟩ = some (.int .i64 0) := hb3.2.cell (i := 1) (by omega)
      have xf := hb3.2.frozen 1
      have hn := Lib.hid (hb3.1.1.setCell (p := ⟨w.heap.size + 1, 1, none⟩) (by simp) (.int .i64 (8 * y1 + x1)))
      have hn2 := Lib.hid (hb3.1.2.setOther (a := ⟨w.heap.size + 1, 1, none⟩) (by simp) (.int .i64 (8 * y1 + x1)))
      have hn3 := Lib.hid ((hb3.2.set 1 (.int .i64 (8 * y1 + x1))).congr (g := atF (8 * y0 + x0) (8 * y1 + x1)) fun j hj => by (have : j = 0 ∨ j = 1 := (by omega)); rcases this with rfl | rfl <;> rfl)
      clear hb3
      go_wp2_with (fail)
      exact ⟨⟨.inr (.inr ⟨by go_num, hn3.out⟩), hn2.out, hn.out⟩, by simp [intOf]⟩
    · have a0 : wr.cell? ⟨w.heap.size + 1, 0, none⟩ = some (.int .i64 (8 * y0 + x0)) := q1.cell (i := 0) (by omega)
      have a1 : wr.cell? ⟨w.heap.size + 1, 1, none⟩ = some (.int .i64 (8 * y1 + x1)) := q1.cell (i := 1) (by omega)
      have m0 := (row_lit wr #[.int .i64 (8 * y0 + x0), .int .i64 (8 * y1 + x1), .int .i64 0] 25).congr (g := mvI (8 * y0 + x0) (8 * y1 + x1) 0) (fun j hj => by (have hj : j < 3 := hj); (have : j = 0 ∨ j = 1 ∨ j = 2 := (by omega)); rcases this with rfl | rfl | rfl <;> rfl)
      have m1 := q0.alloc (.cells #[.int .i64 (8 * y0 + x0), .int .i64 (8 * y1 + x1), .int .i64 0] 25)
      have mB := qB.alloc qB.size (.cells #[.int .i64 (8 * y0 + x0), .int .i64 (8 * y1 + x1), .int .i64 0] 25)
      have hlt := m1.lt
      have hne := q0.lt
      clear hdr q0 q1 qB
      go_upto_region 21 with (fail)
      generalize (wr.alloc (.cells #[.int .i64 (8 * y0 + x0), .int .i64 (8 * y1 + x1), .int .i64 0] 25)) = w3 at *
      have c0 : w3.cell? ⟨wr.heap.size, 0, none⟩ = some (.int .i64 (8 * y0 + x0)) := m0.cell (i := 0) (by simp)
      have c1 : w3.cell? ⟨wr.heap.size, 1, none⟩ = some (.int .i64 (8 * y1 + x1)) := m0.cell (i := 1) (by simp)
      have c2 : w3.cell? ⟨wr.heap.size, 2, none⟩ = some (.int .i64 0) := m0.cell (i := 2) (by simp)
      go_wp2_with (refine wpList_store_mid rfl 25 _ _ rfl w.heap.size 0 #[.int .i64 (8 * y0 + x0), .int .i64 (8 * y1 + x1), .int .i64 0] rfl rfl (rowIs_there m1) (by kernel_rfl) (by simp [Value.oneCell']) ?_)
      have z1 := row_store m1 #[.int .i64 (8 * y0 + x0), .int .i64 (8 * y1 + x1), .int .i64 0] rfl
      have zB := below_setCells (Nat.le_refl _) [.int .i64 (8 * y0 + x0), .int .i64 (8 * y1 + x1), .int .i64 0] 0 _ mB
      have e0 := z1.cell (i := 0) (by omega)
      have e1 := z1.cell (i := 1) (by omega)
      have e2 := z1.cell (i := 2) (by omega)
      exact bodyPost_ret (v := .tuple #[mv3 (8 * y0 + x0) (8 * y1 + x1) 0, .bool true]) (by simp [results, Tryd.results12, go_sem, mv3, e0, e1, e2]) rfl ⟨rfl, zB⟩
set_option maxRecDepth 100000 in
theorem split_3 (L : List UInt8) (h : isSq (bi L 0) (bi L 1) = true) (h2 : isSq (bi L 2) (bi L 3) = true) (hl : L.length = 5) (hp : pmap (bi L 4) = 0) (w : World) :
    Calls Tryd.prog 12 #[.string (tx L)] w fun e w' => NoMove w e w' := by
  have d1 : ((L.length : Int) != 4) = true := by simp; omega
  have d2 : ((L.length : Int) != 5) = false := by simp; omega
  have d3 : ((L.length : Int) == 5) = true := by simp; omega
  have g4 := g_at L 4
  have h4 : 4 ≤ L.length := by omega
  have g0 := g_at L 0
  have g1 := g_at L 1
  have g2 := g_at L 2
  have g3 := g_at L 3
  replace h := sqYes_of h
  replace h2 := sqYes_of h2
  have hx := dec_small (bi L 0 - 97) (by omega) (by omega)
  have hy := dec_small (bi L 1 - 49) (by omega) (by omega)
  have hz := dec_small (bi L 2 - 97) (by omega) (by omega)
  have ht := dec_small (bi L 3 - 49) (by omega) (by omega)

  generalize hx0 : bi L 0 - 97 = x0 at *
  generalize hy0 : bi L 1 - 49 = y0 at *
  generalize hx1 : bi L 2 - 97 = x1 at *
  generalize hy1 : bi L 3 - 49 = y1 at *
  generalize bi L 0 = c0 at *
  generalize bi L 1 = c1 at *
  generalize bi L 2 = c2 at *
  generalize bi L 3 = c3 at *
  generalize bi L 4 = c4 at *
  obtain ⟨p1, p2⟩ := hx
  obtain ⟨p3, p4⟩ := hy
  obtain ⟨p5, p6⟩ := hz
  obtain ⟨p7, p8⟩ := ht
  have hb : 0 ≤ x0 ∧ x0 ≤ 7 ∧ 0 ≤ y0 ∧ y0 ≤ 7 := by omega
  have hbb : 0 ≤ x1 ∧ x1 ≤ 7 ∧ 0 ≤ y1 ∧ y1 ≤ 7 := by omega
  have k0 := (row_lit w #[.int .i64 0, .int .i64 0, .int .i64 0] 25).alloc (.cells #[.int .i64 0, .int .i64 0] 73)
  have k1 := row_lit (w.alloc (.cells #[.int .i64 0, .int .i64 0, .int .i64 0] 25)) #[.int .i64 0, .int .i64 0] 73
  have kB : Below w.heap.size w ((w.alloc (.cells #[.int .i64 0, .int .i64 0, .int .i64 0] 25)).alloc (.cells #[.int .i64 0, .int .i64 0] 73)) := ((Below.refl _ _).alloc (Nat.le_refl _) _).alloc (by simp) _
  rw [World.size_alloc] at k1
  go_enter Tryd.func12, Tryd.ntmps12
  go_wp2
  generalize ((w.alloc (.cells #[.int .i64 0, .int .i64 0, .int .i64 0] 25)).alloc (.cells #[.int .i64 0, .int .i64 0] 73)) = w1 at *
  go_loopw [5] (fun i wr => (i = .int .i64 0 ∧ wr.rowIs (w.heap.size + 1) 73 2 (atF 0 0) ∨ i = .int .i64 1 ∧ wr.rowIs (w.heap.size + 1) 73 2 (atF (8 * y0 + x0) 0) ∨ i = .int .i64 2 ∧ wr.rowIs (w.heap.size + 1) 73 2 (atF (8 * y0 + x0) (8 * y1 + x1))) ∧ wr.rowIs w.heap.size 25 3 zero3 ∧ Below w.heap.size w wr) (fun i _ => 2 - (intOf i).toNat)
  case atStart => exact ⟨.inl ⟨rfl, k1.congr fun j hj => by (have hj : j < 2 := hj); (have : j = 0 ∨ j = 1 := (by omega)); rcases this with rfl | rfl <;> rfl⟩, k0, kB⟩
  case round =>
    clear k0 k1 kB
    obtain ⟨⟨rfl, q1⟩ | ⟨rfl, q1⟩ | ⟨rfl, q1⟩, q0, qB⟩ := hrel
    all_goals have hdr : ∀ n, (Below w.heap.size w (wr.drewN n) ∧ (wr.drewN n).rowIs w.heap.size 25 3 zero3) ∧ (wr.drewN n).rowIs (w.heap.size + 1) 73 2 _ := fun n => ⟨⟨qB.trans ⟨rfl, rfl, rfl, Nat.le_refl _, fun _ _ => rfl⟩, q0.of_block rfl⟩, q1.of_block rfl⟩
    all_goals replace hdr := Lib.hid hdr
    · clear q0 q1 qB
      go_wp2_with (fail)
      go_quiet (fail)
      generalize hW : World.drewN wr _ = w3
      have hb3 : (Below w.heap.size w w3 ∧ w3.rowIs w.heap.size 25 3 zero3) ∧ w3.rowIs (w.heap.size + 1) 73 2 (atF 0 0) := by rw [← hW]; exact hdr.out _
      clear hdr hW
      have xc : w3.cell? ⟨w.heap.size + 1, 0, none⟩ = some (.int .i64 0) := hb3.2.cell (i := 0) (by omega)
      have xf := hb3.2.frozen 0
      have hn := Lib.hid (hb3.1.1.setCell (p := ⟨w.heap.size + 1, 0, none⟩) (by simp) (.int .i64 (8 * y0 + x0)))
      have hn2 := Lib.hid (hb3.1.2.setOther (a := ⟨w.heap.size + 1, 0, none⟩) (by simp) (.int .i64 (8 * y0 + x0)))
      have hn3 := Lib.hid ((hb3.2.set 0 (.int .i64 (8 * y0 + x0))).congr (g := atF (8 * y0 + x0) 0) fun j hj => by (have : j = 0 ∨ j = 1 := (by omega)); rcases this with rfl | rfl <;> rfl)
      clear hb3
      go_wp2_with (fail)
      exact ⟨⟨.inr (.inl ⟨by go_num, hn3.out⟩), hn2.out, hn.out⟩, by simp [intOf]⟩
    · clear q0 q1 qB
      go_wp2_with (fail)
      go_quiet (fail)
      generalize hW : World.drewN wr _ = w3
      have hb3 : (Below w.heap.size w w3 ∧ w3.rowIs w.heap.size 25 3 zero3) ∧ w3.rowIs (w.heap.size + 1) 73 2 (atF (8 * y0 + x0) 0) := by rw [← hW]; exact hdr.out _
      clear hdr hW
      have xc : w3.cell? ⟨w.heap.size + 1, 1, none⟩ = some (.int .i64 0) := hb3.2.cell (i := 1) (by omega)
      have xf := hb3.2.frozen 1
      have hn := Lib.hid (hb3.1.1.setCell (p := ⟨w.heap.size + 1, 1, none⟩) (by simp) (.int .i64 (8 * y1 + x1)))
      have hn2 := Lib.hid (hb3.1.2.setOther (a := ⟨w.heap.size + 1, 1, none⟩) (by simp) (.int .i64 (8 * y1 + x1)))
      have hn3 := Lib.hid ((hb3.2.set 1 (.int .i64 (8 * y1 + x1))).congr (g := atF (8 * y0 + x0) (8 * y1 + x1)) fun j hj => by (have : j = 0 ∨ j = 1 := (by omega)); rcases this with rfl | rfl <;> rfl)
      clear hb3
      go_wp2_with (fail)
      exact ⟨⟨.inr (.inr ⟨by go_num, hn3.out⟩), hn2.out, hn.out⟩, by simp [intOf]⟩
    · have a0 : wr.cell? ⟨w.heap.size + 1, 0, none⟩ = some (.int .i64 (8 * y0 + x0)) := q1.cell (i := 0) (by omega)
      have a1 : wr.cell? ⟨w.heap.size + 1, 1, none⟩ = some (.int .i64 (8 * y1 + x1)) := q1.cell (i := 1) (by omega)
      have m0 := (row_lit wr #[.int .i64 (8 * y0 + x0), .int .i64 (8 * y1 + x1), .int .i64 0] 25).congr (g := mvI (8 * y0 + x0) (8 * y1 + x1) 0) (fun j hj => by (have hj : j < 3 := hj); (have : j = 0 ∨ j = 1 ∨ j = 2 := (by omega)); rcases this with rfl | rfl | rfl <;> rfl)
      have m1 := q0.alloc (.cells #[.int .i64 (8 * y0 + x0), .int .i64 (8 * y1 + x1), .int .i64 0] 25)
      have mB := qB.alloc qB.size (.cells #[.int .i64 (8 * y0 + x0), .int .i64 (8 * y1 + x1), .int .i64 0] 25)
      have hlt := m1.lt
      have hne := q0.lt
      clear hdr q0 q1 qB
      go_upto_region 14 with (fail)
      generalize hg : wr.heap.size = g at *
      generalize (wr.alloc (.cells #[.int .i64 (8 * y0 + x0), .int .i64 (8 * y1 + x1), .int .i64 0] 25)) = w3 at *
      have hv := pmap_val c4
      obtain ⟨k113, k114, k98, k110⟩ := pmap_k c4
      generalize hQ : pmap c4 = q at *
      replace hQ := Lib.hid hQ
      have hgw : w.heap.size < g := hne
      clear hg a0 a1
      go_wp2_with (fail)
      go_loopw [10] (fun i wx => ∃ k : Nat, k ≤ 4 ∧ i = .int .i64 k ∧ wx.rowIs g 25 3 (mvI (8 * y0 + x0) (8 * y1 + x1) (pSo q k)) ∧ wx.rowIs w.heap.size 25 3 zero3 ∧ Below w.heap.size w wx) (fun i _ => 4 - (intOf i).toNat)
      case atStart => exact ⟨0, by omega, rfl, by rw [pSo_0]; exact m0, m1, mB⟩
      case round =>
        clear m0 m1 mB
        obtain ⟨k, hk, rfl, m0, m1, mB⟩ := hrel
        by_cases hlt : k < 4
        · have hk4 : k = 0 ∨ k = 1 ∨ k = 2 ∨ k = 3 := by omega
          have hdm : ∀ n, ((wr.drewN n).rowIs g 25 3 (mvI (8 * y0 + x0) (8 * y1 + x1) (pSo q k)) ∧ (wr.drewN n).rowIs w.heap.size 25 3 zero3) ∧ Below w.heap.size w (wr.drewN n) := fun n => ⟨⟨m0.of_block rfl, m1.of_block rfl⟩, mB.trans ⟨rfl, rfl, rfl, Nat.le_refl _, fun _ _ => rfl⟩⟩
          replace hdm := Lib.hid hdm
          clear m0 m1 mB
          rcases hk4 with rfl | rfl | rfl | rfl
          · have hcon : ∀ h, ((((({ data := #[113, 114, 98, 110] } : ByteArray)[0]'h).toNat : Nat)) : Int) = 113 := fun _ => rfl
            cases hd : ((113 : Int) == c4)
            · have hq : q ≠ 2 + 0 := fun e => by (have := k113.1 (by omega)); simp at hd; omega
              have hs := pSo_miss q 0 hq
              replace hs := Lib.hid hs
              clear k113 k114 k98 k110 hq hv
              go_wp2_with (fail)
              go_quiet (fail)
              go_wp2_with (fail)
              exact ⟨⟨1, by omega, by go_num, by rw [hs.out]; exact (hdm.out _).1.1, (hdm.out _).1.2, (hdm.out _).2⟩, by simp [intOf]⟩
            · have hq : q = 2 + 0 := by (have := k113.2 (by simp at hd; omega)); omega
              have hs := pSo_hit q 0 hq
              replace hs := Lib.hid hs
              clear k113 k114 k98 k110 hq hv
              go_wp2_with (fail)
              go_quiet (fail)
              generalize hW : World.drewN wr _ = w4
              have hb4 : (w4.rowIs g 25 3 (mvI (8 * y0 + x0) (8 * y1 + x1) (pSo q 0)) ∧ w4.rowIs w.heap.size 25 3 zero3) ∧ Below w.heap.size w w4 := by rw [← hW]; exact hdm.out _
              clear hdm hW
              have xc := hb4.1.1.cell (i := 2) (by omega)
              have xf := hb4.1.1.frozen 2
              have n0 := Lib.hid ((hb4.1.1.set 2 (.int .i64 2)).congr (g := mvI (8 * y0 + x0) (8 * y1 + x1) 2) fun j hj => by (have : j = 0 ∨ j = 1 ∨ j = 2 := (by omega)); rcases this with rfl | rfl | rfl <;> rfl)
              have n1 := Lib.hid (hb4.1.2.setOther (a := ⟨g, 2, none⟩) (by simp; omega) (.int .i64 2))
              have n2 := Lib.hid (hb4.2.setCell (p := ⟨g, 2, none⟩) (by simp; omega) (.int .i64 2))
              clear hb4
              go_wp2_with (fail)
              exact ⟨⟨1, by omega, by go_num, by rw [hs.out]; exact n0.out, n1.out, n2.out⟩, by simp [intOf]⟩
          · have hcon : ∀ h, ((((({ data := #[113, 114, 98, 110] } : ByteArray)[1]'h).toNat : Nat)) : Int) = 114 := fun _ => rfl
            cases hd : ((114 : Int) == c4)
            · have hq : q ≠ 2 + 1 := fun e => by (have := k114.1 (by omega)); simp at hd; omega
              have hs := pSo_miss q 1 hq
              replace hs := Lib.hid hs
              clear k113 k114 k98 k110 hq hv
              go_wp2_with (fail)
              go_quiet (fail)
              go_wp2_with (fail)
              exact ⟨⟨2, by omega, by go_num, by rw [hs.out]; exact (hdm.out _).1.1, (hdm.out _).1.2, (hdm.out _).2⟩, by simp [intOf]⟩
            · have hq : q = 2 + 1 := by (have := k114.2 (by simp at hd; omega)); omega
              have hs := pSo_hit q 1 hq
              replace hs := Lib.hid hs
              clear k113 k114 k98 k110 hq hv
              go_wp2_with (fail)
              go_quiet (fail)
              generalize hW : World.drewN wr _ = w4
              have hb4 : (w4.rowIs g 25 3 (mvI (8 * y0 + x0) (8 * y1 + x1) (pSo q 1)) ∧ w4.rowIs w.heap.size 25 3 zero3) ∧ Below w.heap.size w w4 := by rw [← hW]; exact hdm.out _
              clear hdm hW
              have xc := hb4.1.1.cell (i := 2) (by omega)
              have xf := hb4.1.1.frozen 2
              have n0 := Lib.hid ((hb4.1.1.set 2 (.int .i64 3)).congr (g := mvI (8 * y0 + x0) (8 * y1 + x1) 3) fun j hj => by (have : j = 0 ∨ j = 1 ∨ j = 2 := (by omega)); rcases this with rfl | rfl | rfl <;> rfl)
              have n1 := Lib.hid (hb4.1.2.setOther (a := ⟨g, 2, none⟩) (by simp; omega) (.int .i64 3))
              have n2 := Lib.hid (hb4.2.setCell (p := ⟨g, 2, none⟩) (by simp; omega) (.int .i64 3))
              clear hb4
              go_wp2_with (fail)
              exact ⟨⟨2, by omega, by go_num, by rw [hs.out]; exact n0.out, n1.out, n2.out⟩, by simp [intOf]⟩
          · have hcon : ∀ h, ((((({ data := #[113, 114, 98, 110] } : ByteArray)[2]'h).toNat : Nat)) : Int) = 98 := fun _ => rfl
            cases hd : ((98 : Int) == c4)
            · have hq : q ≠ 2 + 2 := fun e => by (have := k98.1 (by omega)); simp at hd; omega
              have hs := pSo_miss q 2 hq
              replace hs := Lib.hid hs
              clear k113 k114 k98 k110 hq hv
              go_wp2_with (fail)
              go_quiet (fail)
              go_wp2_with (fail)
              exact ⟨⟨3, by omega, by go_num, by rw [hs.out]; exact (hdm.out _).1.1, (hdm.out _).1.2, (hdm.out _).2⟩, by simp [intOf]⟩
            · have hq : q = 2 + 2 := by (have := k98.2 (by simp at hd; omega)); omega
              have hs := pSo_hit q 2 hq
              replace hs := Lib.hid hs
              clear k113 k114 k98 k110 hq hv
              go_wp2_with (fail)
              go_quiet (fail)
              generalize hW : World.drewN wr _ = w4
              have hb4 : (w4.rowIs g 25 3 (mvI (8 * y0 + x0) (8 * y1 + x1) (pSo q 2)) ∧ w4.rowIs w.heap.size 25 3 zero3) ∧ Below w.heap.size w w4 := by rw [← hW]; exact hdm.out _
              clear hdm hW
              have xc := hb4.1.1.cell (i := 2) (by omega)
              have xf := hb4.1.1.frozen 2
              have n0 := Lib.hid ((hb4.1.1.set 2 (.int .i64 4)).congr (g := mvI (8 * y0 + x0) (8 * y1 + x1) 4) fun j hj => by (have : j = 0 ∨ j = 1 ∨ j = 2 := (by omega)); rcases this with rfl | rfl | rfl <;> rfl)
              have n1 := Lib.hid (hb4.1.2.setOther (a := ⟨g, 2, none⟩) (by simp; omega) (.int .i64 4))
              have n2 := Lib.hid (hb4.2.setCell (p := ⟨g, 2, none⟩) (by simp; omega) (.int .i64 4))
              clear hb4
              go_wp2_with (fail)
              exact ⟨⟨3, by omega, by go_num, by rw [hs.out]; exact n0.out, n1.out, n2.out⟩, by simp [intOf]⟩
          · have hcon : ∀ h, ((((({ data := #[113, 114, 98, 110] } : ByteArray)[3]'h).toNat : Nat)) : Int) = 110 := fun _ => rfl
            cases hd : ((110 : Int) == c4)
            · have hq : q ≠ 2 + 3 := fun e => by (have := k110.1 (by omega)); simp at hd; omega
              have hs := pSo_miss q 3 hq
              replace hs := Lib.hid hs
              clear k113 k114 k98 k110 hq hv
              go_wp2_with (fail)
              go_quiet (fail)
              go_wp2_with (fail)
              exact ⟨⟨4, by omega, by go_num, by rw [hs.out]; exact (hdm.out _).1.1, (hdm.out _).1.2, (hdm.out _).2⟩, by simp [intOf]⟩
            · have hq : q = 2 + 3 := by (have := k110.2 (by simp at hd; omega)); omega
              have hs := pSo_hit q 3 hq
              replace hs := Lib.hid hs
              clear k113 k114 k98 k110 hq hv
              go_wp2_with (fail)
              go_quiet (fail)
              generalize hW : World.drewN wr _ = w4
              have hb4 : (w4.rowIs g 25 3 (mvI (8 * y0 + x0) (8 * y1 + x1) (pSo q 3)) ∧ w4.rowIs w.heap.size 25 3 zero3) ∧ Below w.heap.size w w4 := by rw [← hW]; exact hdm.out _
              clear hdm hW
              have xc := hb4.1.1.cell (i := 2) (by omega)
              have xf := hb4.1.1.frozen 2
              have n0 := Lib.hid ((hb4.1.1.set 2 (.int .i64 5)).congr (g := mvI (8 * y0 + x0) (8 * y1 + x1) 5) fun j hj => by (have : j = 0 ∨ j = 1 ∨ j = 2 := (by omega)); rcases this with rfl | rfl | rfl <;> rfl)
              have n1 := Lib.hid (hb4.1.2.setOther (a := ⟨g, 2, none⟩) (by simp; omega) (.int .i64 5))
              have n2 := Lib.hid (hb4.2.setCell (p := ⟨g, 2, none⟩) (by simp; omega) (.int .i64 5))
              clear hb4
              go_wp2_with (fail)
              exact ⟨⟨4, by omega, by go_num, by rw [hs.out]; exact n0.out, n1.out, n2.out⟩, by simp [intOf]⟩
        · obtain rfl : k = 4 := by omega
          rw [pSo_4 q hv] at m0
          have c0 : wr.cell? ⟨g, 0, none⟩ = some (.int .i64 (8 * y0 + x0)) := m0.cell (i := 0) (by simp)
          have c1 : wr.cell? ⟨g, 1, none⟩ = some (.int .i64 (8 * y1 + x1)) := m0.cell (i := 1) (by simp)
          have c2 : wr.cell? ⟨g, 2, none⟩ = some (.int .i64 q) := m0.cell (i := 2) (by simp)
          have e3 : (q == 0) = true := by simpa using hp
          clear k113 k114 k98 k110 m0
          go_wp2_with (refine wpList_store_mid rfl 25 _ _ rfl w.heap.size 0 #[.int .i64 0, .int .i64 0, .int .i64 0] rfl rfl (rowIs_there m1) (by kernel_rfl) (by simp [Value.oneCell']) ?_)
          have z1 := row_store m1 #[.int .i64 0, .int .i64 0, .int .i64 0] rfl
          have zB := below_setCells (Nat.le_refl _) [.int .i64 0, .int .i64 0, .int .i64 0] 0 _ mB
          have e0 := z1.cell (i := 0) (by omega)
          have e1 := z1.cell (i := 1) (by omega)
          have e2 := z1.cell (i := 2) (by omega)
          exact bodyPost_ret (v := .tuple #[mv3 0 0 0, .bool false]) (by simp [results, Tryd.results12, go_sem, mv3, e0, e1, e2]) rfl ⟨rfl, zB⟩
set_option maxRecDepth 100000 in
theorem split_4 (L : List UInt8) (h : isSq (bi L 0) (bi L 1) = true) (h2 : isSq (bi L 2) (bi L 3) = true) (hl : L.length = 5) (hp : pmap (bi L 4) ≠ 0) (w : World) :
    Calls Tryd.prog 12 #[.string (tx L)] w fun e w' => e = .returned (.tuple #[mv3 (sq1 L) (q2 L) (pmap (bi L 4)), .bool true]) ∧ Below w.heap.size w w' := by
  have d1 : ((L.length : Int) != 4) = true := by simp; omega
  have d2 : ((L.length : Int) != 5) = false := by simp; omega
  have d3 : ((L.length : Int) == 5) = true := by simp; omega
  have g4 := g_at L 4
  have h4 : 4 ≤ L.length := by omega
  have g0 := g_at L 0
  have g1 := g_at L 1
  have g2 := g_at L 2
  have g3 := g_at L 3
  replace h := sqYes_of h
  replace h2 := sqYes_of h2
  have hx := dec_small (bi L 0 - 97) (by omega) (by omega)
  have hy := dec_small (bi L 1 - 49) (by omega) (by omega)
  have hz := dec_small (bi L 2 - 97) (by omega) (by omega)
  have ht := dec_small (bi L 3 - 49) (by omega) (by omega)
  rw [show sq1 L = 8 * (bi L 1 - 49) + (bi L 0 - 97) by unfold sq1; omega, show q2 L = 8 * (bi L 3 - 49) + (bi L 2 - 97) by unfold q2; omega]
  generalize hx0 : bi L 0 - 97 = x0 at *
  generalize hy0 : bi L 1 - 49 = y0 at *
  generalize hx1 : bi L 2 - 97 = x1 at *
  generalize hy1 : bi L 3 - 49 = y1 at *
  generalize bi L 0 = c0 at *
  generalize bi L 1 = c1 at *
  generalize bi L 2 = c2 at *
  generalize bi L 3 = c3 at *
  generalize bi L 4 = c4 at *
  obtain ⟨p1, p2⟩ := hx
  obtain ⟨p3, p4⟩ := hy
  obtain ⟨p5, p6⟩ := hz
  obtain ⟨p7, p8⟩ := ht
  have hb : 0 ≤ x0 ∧ x0 ≤ 7 ∧ 0 ≤ y0 ∧ y0 ≤ 7 := by omega
  have hbb : 0 ≤ x1 ∧ x1 ≤ 7 ∧ 0 ≤ y1 ∧ y1 ≤ 7 := by omega
  have k0 := (row_lit w #[.int .i64 0, .int .i64 0, .int .i64 0] 25).alloc (.cells #[.int .i64 0, .int .i64 0] 73)
  have k1 := row_lit (w.alloc (.cells #[.int .i64 0, .int .i64 0, .int .i64 0] 25)) #[.int .i64 0, .int .i64 0] 73
  have kB : Below w.heap.size w ((w.alloc (.cells #[.int .i64 0, .int .i64 0, .int .i64 0] 25)).alloc (.cells #[.int .i64 0, .int .i64 0] 73)) := ((Below.refl _ _).alloc (Nat.le_refl _) _).alloc (by simp) _
  rw [World.size_alloc] at k1
  go_enter Tryd.func12, Tryd.ntmps12
  go_wp2
  generalize ((w.alloc (.cells #[.int .i64 0, .int .i64 0, .int .i64 0] 25)).alloc (.cells #[.int .i64 0, .int .i64 0] 73)) = w1 at *
  go_loopw [5] (fun i wr => (i = .int .i64 0 ∧ wr.rowIs (w.heap.size + 1) 73 2 (atF 0 0) ∨ i = .int .i64 1 ∧ wr.rowIs (w.heap.size + 1) 73 2 (atF (8 * y0 + x0) 0) ∨ i = .int .i64 2 ∧ wr.rowIs (w.heap.size + 1) 73 2 (atF (8 * y0 + x0) (8 * y1 + x1))) ∧ wr.rowIs w.heap.size 25 3 zero3 ∧ Below w.heap.size w wr) (fun i _ => 2 - (intOf i).toNat)
  case atStart => exact ⟨.inl ⟨rfl, k1.congr fun j hj => by (have hj : j < 2 := hj); (have : j = 0 ∨ j = 1 := (by omega)); rcases this with rfl | rfl <;> rfl⟩, k0, kB⟩
  case round =>
    clear k0 k1 kB
    obtain ⟨⟨rfl, q1⟩ | ⟨rfl, q1⟩ | ⟨rfl, q1⟩, q0, qB⟩ := hrel
    all_goals have hdr : ∀ n, (Below w.heap.size w (wr.drewN n) ∧ (wr.drewN n).rowIs w.heap.size 25 3 zero3) ∧ (wr.drewN n).rowIs (w.heap.size + 1) 73 2 _ := fun n => ⟨⟨qB.trans ⟨rfl, rfl, rfl, Nat.le_refl _, fun _ _ => rfl⟩, q0.of_block rfl⟩, q1.of_block rfl⟩
    all_goals replace hdr := Lib.hid hdr
    · clear q0 q1 qB
      go_wp2_with (fail)
      go_quiet (fail)
      generalize hW : World.drewN wr _ = w3
      have hb3 : (Below w.heap.size w w3 ∧ w3.rowIs w.heap.size 25 3 zero3) ∧ w3.rowIs (w.heap.size + 1) 73 2 (atF 0 0) := by rw [← hW]; exact hdr.out _
      clear hdr hW
      have xc : w3.cell? ⟨w.heap.size + 1, 0, none⟩ = some (.int .i64 0) := hb3.2.cell (i := 0) (by omega)
      have xf := hb3.2.frozen 0
      have hn := Lib.hid (hb3.1.1.setCell (p := ⟨w.heap.size + 1, 0, none⟩) (by simp) (.int .i64 (8 * y0 + x0)))
      have hn2 := Lib.hid (hb3.1.2.setOther (a := ⟨w.heap.size + 1, 0, none⟩) (by simp) (.int .i64 (8 * y0 + x0)))
      have hn3 := Lib.hid ((hb3.2.set 0 (.int .i64 (8 * y0 + x0))).congr (g := atF (8 * y0 + x0) 0) fun j hj => by (have : j = 0 ∨ j = 1 := (by omega)); rcases this with rfl | rfl <;> rfl)
      clear hb3
      go_wp2_with (fail)
      exact ⟨⟨.inr (.inl ⟨by go_num, hn3.out⟩), hn2.out, hn.out⟩, by simp [intOf]⟩
    · clear q0 q1 qB
      go_wp2_with (fail)
      go_quiet (fail)
      generalize hW : World.drewN wr _ = w3
      have hb3 : (Below w.heap.size w w3 ∧ w3.rowIs w.heap.size 25 3 zero3) ∧ w3.rowIs (w.heap.size + 1) 73 2 (atF (8 * y0 + x0) 0) := by rw [← hW]; exact hdr.out _
      clear hdr hW
      have xc : w3.cell? ⟨w.heap.size + 1, 1, none⟩ = some (.int .i64 0) := hb3.2.cell (i := 1) (by omega)
      have xf := hb3.2.frozen 1
      have hn := Lib.hid (hb3.1.1.setCell (p := ⟨w.heap.size + 1, 1, none⟩) (by simp) (.int .i64 (8 * y1 + x1)))
      have hn2 := Lib.hid (hb3.1.2.setOther (a := ⟨w.heap.size + 1, 1, none⟩) (by simp) (.int .i64 (8 * y1 + x1)))
      have hn3 := Lib.hid ((hb3.2.set 1 (.int .i64 (8 * y1 + x1))).congr (g := atF (8 * y0 + x0) (8 * y1 + x1)) fun j hj => by (have : j = 0 ∨ j = 1 := (by omega)); rcases this with rfl | rfl <;> rfl)
      clear hb3
      go_wp2_with (fail)
      exact ⟨⟨.inr (.inr ⟨by go_num, hn3.out⟩), hn2.out, hn.out⟩, by simp [intOf]⟩
    · have a0 : wr.cell? ⟨w.heap.size + 1, 0, none⟩ = some (.int .i64 (8 * y0 + x0)) := q1.cell (i := 0) (by omega)
      have a1 : wr.cell? ⟨w.heap.size + 1, 1, none⟩ = some (.int .i64 (8 * y1 + x1)) := q1.cell (i := 1) (by omega)
      have m0 := (row_lit wr #[.int .i64 (8 * y0 + x0), .int .i64 (8 * y1 + x1), .int .i64 0] 25).congr (g := mvI (8 * y0 + x0) (8 * y1 + x1) 0) (fun j hj => by (have hj : j < 3 := hj); (have : j = 0 ∨ j = 1 ∨ j = 2 := (by omega)); rcases this with rfl | rfl | rfl <;> rfl)
      have m1 := q0.alloc (.cells #[.int .i64 (8 * y0 + x0), .int .i64 (8 * y1 + x1), .int .i64 0] 25)
      have mB := qB.alloc qB.size (.cells #[.int .i64 (8 * y0 + x0), .int .i64 (8 * y1 + x1), .int .i64 0] 25)
      have hlt := m1.lt
      have hne := q0.lt
      clear hdr q0 q1 qB
      go_upto_region 14 with (fail)
      generalize hg : wr.heap.size = g at *
      generalize (wr.alloc (.cells #[.int .i64 (8 * y0 + x0), .int .i64 (8 * y1 + x1), .int .i64 0] 25)) = w3 at *
      have hv := pmap_val c4
      obtain ⟨k113, k114, k98, k110⟩ := pmap_k c4
      generalize hQ : pmap c4 = q at *
      replace hQ := Lib.hid hQ
      have hgw : w.heap.size < g := hne
      clear hg a0 a1
      go_wp2_with (fail)
      go_loopw [10] (fun i wx => ∃ k : Nat, k ≤ 4 ∧ i = .int .i64 k ∧ wx.rowIs g 25 3 (mvI (8 * y0 + x0) (8 * y1 + x1) (pSo q k)) ∧ wx.rowIs w.heap.size 25 3 zero3 ∧ Below w.heap.size w wx) (fun i _ => 4 - (intOf i).toNat)
      case atStart => exact ⟨0, by omega, rfl, by rw [pSo_0]; exact m0, m1, mB⟩
      case round =>
        clear m0 m1 mB
        obtain ⟨k, hk, rfl, m0, m1, mB⟩ := hrel
        by_cases hlt : k < 4
        · have hk4 : k = 0 ∨ k = 1 ∨ k = 2 ∨ k = 3 := by omega
          have hdm : ∀ n, ((wr.drewN n).rowIs g 25 3 (mvI (8 * y0 + x0) (8 * y1 + x1) (pSo q k)) ∧ (wr.drewN n).rowIs w.heap.size 25 3 zero3) ∧ Below w.heap.size w (wr.drewN n) := fun n => ⟨⟨m0.of_block rfl, m1.of_block rfl⟩, mB.trans ⟨rfl, rfl, rfl, Nat.le_refl _, fun _ _ => rfl⟩⟩
          replace hdm := Lib.hid hdm
          clear m0 m1 mB
          rcases hk4 with rfl | rfl | rfl | rfl
          · have hcon : ∀ h, ((((({ data := #[113, 114, 98, 110] } : ByteArray)[0]'h).toNat : Nat)) : Int) = 113 := fun _ => rfl
            cases hd : ((113 : Int) == c4)
            · have hq : q ≠ 2 + 0 := fun e => by (have := k113.1 (by omega)); simp at hd; omega
              have hs := pSo_miss q 0 hq
              replace hs := Lib.hid hs
              clear k113 k114 k98 k110 hq hv
              go_wp2_with (fail)
              go_quiet (fail)
              go_wp2_with (fail)
              exact ⟨⟨1, by omega, by go_num, by rw [hs.out]; exact (hdm.out _).1.1, (hdm.out _).1.2, (hdm.out _).2⟩, by simp [intOf]⟩
            · have hq : q = 2 + 0 := by (have := k113.2 (by simp at hd; omega)); omega
              have hs := pSo_hit q 0 hq
              replace hs := Lib.hid hs
              clear k113 k114 k98 k110 hq hv
              go_wp2_with (fail)
              go_quiet (fail)
              generalize hW : World.drewN wr _ = w4
              have hb4 : (w4.rowIs g 25 3 (mvI (8 * y0 + x0) (8 * y1 + x1) (pSo q 0)) ∧ w4.rowIs w.heap.size 25 3 zero3) ∧ Below w.heap.size w w4 := by rw [← hW]; exact hdm.out _
              clear hdm hW
              have xc := hb4.1.1.cell (i := 2) (by omega)
              have xf := hb4.1.1.frozen 2
              have n0 := Lib.hid ((hb4.1.1.set 2 (.int .i64 2)).congr (g := mvI (8 * y0 + x0) (8 * y1 + x1) 2) fun j hj => by (have : j = 0 ∨ j = 1 ∨ j = 2 := (by omega)); rcases this with rfl | rfl | rfl <;> rfl)
              have n1 := Lib.hid (hb4.1.2.setOther (a := ⟨g, 2, none⟩) (by simp; omega) (.int .i64 2))
              have n2 := Lib.hid (hb4.2.setCell (p := ⟨g, 2, none⟩) (by simp; omega) (.int .i64 2))
              clear hb4
              go_wp2_with (fail)
              exact ⟨⟨1, by omega, by go_num, by rw [hs.out]; exact n0.out, n1.out, n2.out⟩, by simp [intOf]⟩
          · have hcon : ∀ h, ((((({ data := #[113, 114, 98, 110] } : ByteArray)[1]'h).toNat : Nat)) : Int) = 114 := fun _ => rfl
            cases hd : ((114 : Int) == c4)
            · have hq : q ≠ 2 + 1 := fun e => by (have := k114.1 (by omega)); simp at hd; omega
              have hs := pSo_miss q 1 hq
              replace hs := Lib.hid hs
              clear k113 k114 k98 k110 hq hv
              go_wp2_with (fail)
              go_quiet (fail)
              go_wp2_with (fail)
              exact ⟨⟨2, by omega, by go_num, by rw [hs.out]; exact (hdm.out _).1.1, (hdm.out _).1.2, (hdm.out _).2⟩, by simp [intOf]⟩
            · have hq : q = 2 + 1 := by (have := k114.2 (by simp at hd; omega)); omega
              have hs := pSo_hit q 1 hq
              replace hs := Lib.hid hs
              clear k113 k114 k98 k110 hq hv
              go_wp2_with (fail)
              go_quiet (fail)
              generalize hW : World.drewN wr _ = w4
              have hb4 : (w4.rowIs g 25 3 (mvI (8 * y0 + x0) (8 * y1 + x1) (pSo q 1)) ∧ w4.rowIs w.heap.size 25 3 zero3) ∧ Below w.heap.size w w4 := by rw [← hW]; exact hdm.out _
              clear hdm hW
              have xc := hb4.1.1.cell (i := 2) (by omega)
              have xf := hb4.1.1.frozen 2
              have n0 := Lib.hid ((hb4.1.1.set 2 (.int .i64 3)).congr (g := mvI (8 * y0 + x0) (8 * y1 + x1) 3) fun j hj => by (have : j = 0 ∨ j = 1 ∨ j = 2 := (by omega)); rcases this with rfl | rfl | rfl <;> rfl)
              have n1 := Lib.hid (hb4.1.2.setOther (a := ⟨g, 2, none⟩) (by simp; omega) (.int .i64 3))
              have n2 := Lib.hid (hb4.2.setCell (p := ⟨g, 2, none⟩) (by simp; omega) (.int .i64 3))
              clear hb4
              go_wp2_with (fail)
              exact ⟨⟨2, by omega, by go_num, by rw [hs.out]; exact n0.out, n1.out, n2.out⟩, by simp [intOf]⟩
          · have hcon : ∀ h, ((((({ data := #[113, 114, 98, 110] } : ByteArray)[2]'h).toNat : Nat)) : Int) = 98 := fun _ => rfl
            cases hd : ((98 : Int) == c4)
            · have hq : q ≠ 2 + 2 := fun e => by (have := k98.1 (by omega)); simp at hd; omega
              have hs := pSo_miss q 2 hq
              replace hs := Lib.hid hs
              clear k113 k114 k98 k110 hq hv
              go_wp2_with (fail)
              go_quiet (fail)
              go_wp2_with (fail)
              exact ⟨⟨3, by omega, by go_num, by rw [hs.out]; exact (hdm.out _).1.1, (hdm.out _).1.2, (hdm.out _).2⟩, by simp [intOf]⟩
            · have hq : q = 2 + 2 := by (have := k98.2 (by simp at hd; omega)); omega
              have hs := pSo_hit q 2 hq
              replace hs := Lib.hid hs
              clear k113 k114 k98 k110 hq hv
              go_wp2_with (fail)
              go_quiet (fail)
              generalize hW : World.drewN wr _ = w4
              have hb4 : (w4.rowIs g 25 3 (mvI (8 * y0 + x0) (8 * y1 + x1) (pSo q 2)) ∧ w4.rowIs w.heap.size 25 3 zero3) ∧ Below w.heap.size w w4 := by rw [← hW]; exact hdm.out _
              clear hdm hW
              have xc := hb4.1.1.cell (i := 2) (by omega)
              have xf := hb4.1.1.frozen 2
              have n0 := Lib.hid ((hb4.1.1.set 2 (.int .i64 4)).congr (g := mvI (8 * y0 + x0) (8 * y1 + x1) 4) fun j hj => by (have : j = 0 ∨ j = 1 ∨ j = 2 := (by omega)); rcases this with rfl | rfl | rfl <;> rfl)
              have n1 := Lib.hid (hb4.1.2.setOther (a := ⟨g, 2, none⟩) (by simp; omega) (.int .i64 4))
              have n2 := Lib.hid (hb4.2.setCell (p := ⟨g, 2, none⟩) (by simp; omega) (.int .i64 4))
              clear hb4
              go_wp2_with (fail)
              exact ⟨⟨3, by omega, by go_num, by rw [hs.out]; exact n0.out, n1.out, n2.out⟩, by simp [intOf]⟩
          · have hcon : ∀ h, ((((({ data := #[113, 114, 98, 110] } : ByteArray)[3]'h).toNat : Nat)) : Int) = 110 := fun _ => rfl
            cases hd : ((110 : Int) == c4)
            · have hq : q ≠ 2 + 3 := fun e => by (have := k110.1 (by omega)); simp at hd; omega
              have hs := pSo_miss q 3 hq
              replace hs := Lib.hid hs
              clear k113 k114 k98 k110 hq hv
              go_wp2_with (fail)
              go_quiet (fail)
              go_wp2_with (fail)
              exact ⟨⟨4, by omega, by go_num, by rw [hs.out]; exact (hdm.out _).1.1, (hdm.out _).1.2, (hdm.out _).2⟩, by simp [intOf]⟩
            · have hq : q = 2 + 3 := by (have := k110.2 (by simp at hd; omega)); omega
              have hs := pSo_hit q 3 hq
              replace hs := Lib.hid hs
              clear k113 k114 k98 k110 hq hv
              go_wp2_with (fail)
              go_quiet (fail)
              generalize hW : World.drewN wr _ = w4
              have hb4 : (w4.rowIs g 25 3 (mvI (8 * y0 + x0) (8 * y1 + x1) (pSo q 3)) ∧ w4.rowIs w.heap.size 25 3 zero3) ∧ Below w.heap.size w w4 := by rw [← hW]; exact hdm.out _
              clear hdm hW
              have xc := hb4.1.1.cell (i := 2) (by omega)
              have xf := hb4.1.1.frozen 2
              have n0 := Lib.hid ((hb4.1.1.set 2 (.int .i64 5)).congr (g := mvI (8 * y0 + x0) (8 * y1 + x1) 5) fun j hj => by (have : j = 0 ∨ j = 1 ∨ j = 2 := (by omega)); rcases this with rfl | rfl | rfl <;> rfl)
              have n1 := Lib.hid (hb4.1.2.setOther (a := ⟨g, 2, none⟩) (by simp; omega) (.int .i64 5))
              have n2 := Lib.hid (hb4.2.setCell (p := ⟨g, 2, none⟩) (by simp; omega) (.int .i64 5))
              clear hb4
              go_wp2_with (fail)
              exact ⟨⟨4, by omega, by go_num, by rw [hs.out]; exact n0.out, n1.out, n2.out⟩, by simp [intOf]⟩
        · obtain rfl : k = 4 := by omega
          rw [pSo_4 q hv] at m0
          have c0 : wr.cell? ⟨g, 0, none⟩ = some (.int .i64 (8 * y0 + x0)) := m0.cell (i := 0) (by simp)
          have c1 : wr.cell? ⟨g, 1, none⟩ = some (.int .i64 (8 * y1 + x1)) := m0.cell (i := 1) (by simp)
          have c2 : wr.cell? ⟨g, 2, none⟩ = some (.int .i64 q) := m0.cell (i := 2) (by simp)
          have e3 : (q == 0) = false := by simpa using hp
          clear k113 k114 k98 k110 m0
          go_wp2_with (refine wpList_store_mid rfl 25 _ _ rfl w.heap.size 0 #[.int .i64 (8 * y0 + x0), .int .i64 (8 * y1 + x1), .int .i64 q] rfl rfl (rowIs_there m1) (by kernel_rfl) (by simp [Value.oneCell']) ?_)
          have z1 := row_store m1 #[.int .i64 (8 * y0 + x0), .int .i64 (8 * y1 + x1), .int .i64 q] rfl
          have zB := below_setCells (Nat.le_refl _) [.int .i64 (8 * y0 + x0), .int .i64 (8 * y1 + x1), .int .i64 q] 0 _ mB
          have e0 := z1.cell (i := 0) (by omega)
          have e1 := z1.cell (i := 1) (by omega)
          have e2 := z1.cell (i := 2) (by omega)
          exact bodyPost_ret (v := .tuple #[mv3 (8 * y0 + x0) (8 * y1 + x1) q, .bool true]) (by simp [results, Tryd.results12, go_sem, mv3, e0, e1, e2]) rfl ⟨by rw [hQ.out], zB⟩
end Go.Proofs.YtoigijloeillbaaDoor

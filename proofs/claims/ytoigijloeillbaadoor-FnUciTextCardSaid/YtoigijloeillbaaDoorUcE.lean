/- The text of a move between two squares: the thin package's two functions. -/
import Derived.Test.YtoigijloeillbaaDoorUcA
import Derived.Test.YtoigijloeillbaaDoorUcB
namespace Go.Proofs.YtoigijloeillbaaDoor
open Go.ChangeShapes Go.WideShapes Go.ChangeAt Go.RowKit Go.PlainAid
set_option maxHeartbeats 1000000
set_option linter.unusedVariables false
set_option linter.unusedSimpArgs false
attribute [local go_sem] tx_list tx_size bt_tx

theorem clo_UciText (p0 p1 : Addr) (w : World) :
    CallsD Tryd.prog 23 #[.pointer (some p0), .pointer (some p1)] .returning w fun e u' w' => e = .returned (.tuple #[]) ∧ u' = .returning ∧ w' = w := by
  refine callsD_of_wpS Tryd.func23 rfl fun c₀ cs hu => ?_
  apply wpS_seq
  apply wpS_region
  simp [wpOpsS, go_sem, recoverD, hu, Tryd.ntmps23, Exit.thenS]
  refine wpS_cond (t := false) (by simp [Act.eval, Array.replicate]) ?_
  simp only [Bool.false_eq_true, if_false]
  refine wpS_of_wp (wp_skip ?_)
  cases c₀
  simp_all [bodyPostS, results, Tryd.results23]

theorem clo_UciRead (p0 p1 : Addr) (w : World) :
    CallsD Tryd.prog 25 #[.pointer (some p0), .pointer (some p1)] .returning w fun e u' w' => e = .returned (.tuple #[]) ∧ u' = .returning ∧ w' = w := by
  refine callsD_of_wpS Tryd.func25 rfl fun c₀ cs hu => ?_
  apply wpS_seq
  apply wpS_region
  simp [wpOpsS, go_sem, recoverD, hu, Tryd.ntmps25, Exit.thenS]
  refine wpS_cond (t := false) (by simp [Act.eval, Array.replicate]) ?_
  simp only [Bool.false_eq_true, if_false]
  refine wpS_of_wp (wp_skip ?_)
  cases c₀
  simp_all [bodyPostS, results, Tryd.results25]

theorem encode_any (g : Nat) (a b p : Int) (ha : 0 ≤ a ∧ a < 64) (hb : 0 ≤ b ∧ b < 64) (hp : p = 0 ∨ 2 ≤ p ∧ p ≤ 5) (w : World) (hm : w.rowIs g 53 11 (mvF a b p 0)) :
    Calls Tryd.prog 24 #[.agg #[], .pointer none, .pointer (some ⟨g, 0, none⟩)] w fun e w' => e = .returned (.string (tx (sqS a ++ sqS b ++ prS p))) ∧ Below w.heap.size w w' := by
  have : p = 0 ∨ p = 2 ∨ p = 3 ∨ p = 4 ∨ p = 5 := by omega
  rcases this with rfl | rfl | rfl | rfl | rfl
  · exact (encode_0 g a b 0 ha hb rfl w hm).mono fun e w' h => ⟨by rw [h.1]; show _ = Ending.returned (.string (tx (sqS a ++ sqS b ++ []))); rw [List.append_nil]; rfl, h.2⟩
  · exact encode_1 g a b 2 ha hb (by omega) w hm
  · exact encode_1 g a b 3 ha hb (by omega) w hm
  · exact encode_1 g a b 4 ha hb (by omega) w hm
  · exact encode_1 g a b 5 ha hb (by omega) w hm
def laidT (a b q : Int) (w : World) : World := ((w.alloc (.cells #[.int .i64 a, .int .i64 b, .int .i64 q] 25)).alloc (.cells #[.string ⟨#[]⟩] 9)).alloc (.cells #[.bool false] 4)
theorem laidT_facts (a b q : Int) (w : World) : (laidT a b q w).heap.size = w.heap.size + 3 ∧ (laidT a b q w).rowIs w.heap.size 25 3 (fun j => (#[.int .i64 a, .int .i64 b, .int .i64 q] : Array Value).getD j undef) ∧ (laidT a b q w).rowIs (w.heap.size + 1) 9 1 (fun j => (#[.string ⟨#[]⟩] : Array Value).getD j undef) ∧ (laidT a b q w).rowIs (w.heap.size + 1 + 1) 4 1 (fun j => (#[.bool false] : Array Value).getD j undef) ∧ Below w.heap.size w (laidT a b q w) := by
  have h1 := row_lit w #[.int .i64 a, .int .i64 b, .int .i64 q] 25
  have h2 := row_lit (w.alloc (.cells #[.int .i64 a, .int .i64 b, .int .i64 q] 25)) #[.string ⟨#[]⟩] 9
  have h3 := row_lit ((w.alloc (.cells #[.int .i64 a, .int .i64 b, .int .i64 q] 25)).alloc (.cells #[.string ⟨#[]⟩] 9)) #[.bool false] 4
  rw [World.size_alloc] at h2
  rw [World.size_alloc, World.size_alloc] at h3
  exact ⟨by simp [laidT], (h1.alloc _).alloc _, h2.alloc _, h3, (((Below.refl _ _).alloc (Nat.le_refl _) _).alloc (by simp) _).alloc (by simp; omega) _⟩
set_option maxRecDepth 100000 in
theorem implText_any (a b q : Int) (ha : 0 ≤ a ∧ a < 64) (hb : 0 ≤ b ∧ b < 64) (hq : q = 0 ∨ 2 ≤ q ∧ q ≤ 5) (w : World) :
    Calls Tryd.prog 9 #[mv3 a b q] w fun e w' => e = .returned (.tuple #[.string (tx (sqS a ++ sqS b ++ prS q)), .bool true]) ∧ Below w.heap.size w w' := by
  have hmf := mkf Tryd.prog
  obtain ⟨hs, hr1, hr2, hr3, hB⟩ := laidT_facts a b q w
  have hmv := Lib.hid (move_any a b q ha hb hq)
  have hen := fun g w => encode_any g a b q ha hb hq w
  generalize sqS a ++ sqS b ++ prS q = T at hen ⊢
  replace hen := Lib.hid hen
  have v0 : (laidT a b q w).cell? ⟨w.heap.size, 0, none⟩ = some (.int .i64 a) := hr1.cell (i := 0) (by omega)
  have v1 : (laidT a b q w).cell? ⟨w.heap.size, 1, none⟩ = some (.int .i64 b) := hr1.cell (i := 1) (by omega)
  have v2 : (laidT a b q w).cell? ⟨w.heap.size, 2, none⟩ = some (.int .i64 q) := hr1.cell (i := 2) (by omega)
  clear hq
  unfold mv3 at *
  go_enter_defers Tryd.func9, Tryd.ntmps9
  go_upto_region 2 with (fail)
  change Code.wp _ _ _ _ (laidT a b q w)
  generalize laidT a b q w = w1 at *
  go_wp2_with (fail)
  refine (hmv.out _).mono ?_
  rintro e w2 ⟨g, rfl, hg, hm, hb2⟩
  go_wp2_with (fail)
  refine (hen.out _ _ hm).mono ?_
  rintro e w3 ⟨rfl, hb3⟩
  have hb13 := hb2.trans (hb3.mono hb2.size)
  have q2 := rowIs_below hr2 hb13 (by omega)
  have q3 := rowIs_below hr3 hb13 (by omega)
  have qB := hB.trans (hb13.mono hB.size)
  have k2 : w3.cell? ⟨w.heap.size + 1, 0, none⟩ = some (.string ⟨#[]⟩) := q2.cell (i := 0) (by omega)
  have k3 : w3.cell? ⟨w.heap.size + 1 + 1, 0, none⟩ = some (.bool false) := q3.cell (i := 0) (by omega)
  have f2 := q2.frozen 0
  have f3 := q3.frozen 0
  have p2 := (q2.set 0 (.string (tx (T)))).setOther (a := ⟨w.heap.size + 1 + 1, 0, none⟩) (by simp) (.bool true)
  have p3 := (q3.setOther (a := ⟨w.heap.size + 1, 0, none⟩) (by simp) (.string (tx (T)))).set 0 (.bool true)
  have pB := (qB.setCell (p := ⟨w.heap.size + 1, 0, none⟩) (by simp) (.string (tx (T)))).setCell (p := ⟨w.heap.size + 1 + 1, 0, none⟩) (by simp; omega) (.bool true)
  have d2 := p2.cell (i := 0) (by omega)
  have d3 := p3.cell (i := 0) (by omega)
  replace pB := Lib.hid pB
  clear hm hg hb2 hb3 hb13 q2 q3 qB hr1 hr2 hr3 hB p2 p3 v0 v1 v2 hen hmv
  simp only [if_pos] at d2 d3
  go_wp2_with (fail)
  refine leaves_cons (f := 23) (args := #[.pointer (some ⟨w.heap.size + 1, 0, none⟩), .pointer (some ⟨w.heap.size + 2, 0, none⟩)]) (by simp) (by simp [go_sem]) ?_; refine (clo_UciText _ _ _).mono ?_; rintro e u' w'' ⟨rfl, rfl, rfl⟩
  simp [Leaves, settle, results, Tryd.results9, asAddr, go_sem, d2, d3]
  exact pB.out
def laidR (w : World) : World := (w.alloc (.cells #[.int .i64 0, .int .i64 0, .int .i64 0] 25)).alloc (.cells #[.bool false] 4)
theorem laidR_facts (w : World) : (laidR w).heap.size = w.heap.size + 2 ∧ (laidR w).rowIs w.heap.size 25 3 (fun j => (#[.int .i64 0, .int .i64 0, .int .i64 0] : Array Value).getD j undef) ∧ (laidR w).rowIs (w.heap.size + 1) 4 1 (fun j => (#[.bool false] : Array Value).getD j undef) ∧ Below w.heap.size w (laidR w) := by
  have h1 := row_lit w #[.int .i64 0, .int .i64 0, .int .i64 0] 25
  have h2 := row_lit (w.alloc (.cells #[.int .i64 0, .int .i64 0, .int .i64 0] 25)) #[.bool false] 4
  rw [World.size_alloc] at h2
  exact ⟨by simp [laidR], h1.alloc _, h2, ((Below.refl _ _).alloc (Nat.le_refl _) _).alloc (by simp) _⟩
set_option maxRecDepth 100000 in
theorem implRead_no (L : List UInt8) 
    (hdec : ∀ w, Calls Tryd.prog 26 #[.agg #[], .pointer none, .string (tx L)] w fun e w' => UErr w e w') (w : World) :
    Calls Tryd.prog 10 #[.string (tx L)] w fun e w' => e = .returned (.tuple #[mv3 0 0 0, .bool false]) ∧ Below w.heap.size w w' := by
  skip
  have hmf := mkf Tryd.prog
  obtain ⟨hs, hr1, hr2, hB⟩ := laidR_facts w
  replace hdec := Lib.hid hdec
  go_enter_defers Tryd.func10, Tryd.ntmps10
  go_upto_region 2 with (fail)
  change Code.wp _ _ _ _ (laidR w)
  generalize laidR w = w1 at *
  go_wp2_with (fail)
  refine (hdec.out _).mono ?_
  rintro e w2 ⟨⟨ad, rfl⟩, hb2⟩
  have q1 := rowIs_below hr1 hb2 (by omega)
  have q2 := rowIs_below hr2 hb2 (by omega)
  have qB := hB.trans (hb2.mono hB.size)
  clear hr1 hr2 hB hb2 hdec

  generalize w2 = w3 at *
  try unfold mv3
  have z1 := row_store q1 #[.int .i64 0, .int .i64 0, .int .i64 0] rfl
  have z2 := q2.of_block (setCells_other w.heap.size [.int .i64 0, .int .i64 0, .int .i64 0] 0 w3 (w.heap.size + 1) (by omega))
  have zB := below_setCells (Nat.le_refl _) [.int .i64 0, .int .i64 0, .int .i64 0] 0 _ qB
  have zc : (w3.setCells w.heap.size 0 [.int .i64 0, .int .i64 0, .int .i64 0]).cell? ⟨w.heap.size + 1, 0, none⟩ = some (.bool false) := z2.cell (i := 0) (by omega)
  have zf := z2.frozen 0
  have y1 := z1.setOther (a := ⟨w.heap.size + 1, 0, none⟩) (by simp) (.bool false)
  have y2 := z2.set 0 (.bool false)
  have yB := Lib.hid (zB.setCell (p := ⟨w.heap.size + 1, 0, none⟩) (by simp) (.bool false))
  have e0 := y1.cell (i := 0) (by omega)
  have e1 := y1.cell (i := 1) (by omega)
  have e2 := y1.cell (i := 2) (by omega)
  have e3 := y2.cell (i := 0) (by omega)
  simp only [if_pos] at e3
  have hth := Lib.hid (rowIs_there q1)
  clear z1 z2 zB y1 y2 q1 q2 qB
  change (w3.setCells w.heap.size 0 [.int .i64 0, .int .i64 0, .int .i64 0]).cell? ⟨w.heap.size + 1, 0, none⟩ = _ at zc
  go_wp2_with (refine wpList_store_mid rfl 25 _ _ rfl w.heap.size 0 #[.int .i64 0, .int .i64 0, .int .i64 0] rfl rfl hth.out (by kernel_rfl) (by simp [Value.oneCell']) ?_)
  refine leaves_cons (f := 25) (args := #[.pointer (some ⟨w.heap.size, 0, none⟩), .pointer (some ⟨w.heap.size + 1, 0, none⟩)]) (by simp) (by simp [go_sem]) ?_; refine (clo_UciRead _ _ _).mono ?_; rintro e u' w'' ⟨rfl, rfl, rfl⟩
  simp [Leaves, settle, results, Tryd.results10, asAddr, go_sem, e0, e1, e2, e3]
  first | exact yB.out | exact ⟨rfl, yB.out⟩
set_option maxRecDepth 100000 in
theorem implRead_yes (L : List UInt8) (a b q : Int) (ha : 0 ≤ a ∧ a < 64) (hb : 0 ≤ b ∧ b < 64) (hq : 0 ≤ q ∧ q < 64)
    (hdec : ∀ w, Calls Tryd.prog 26 #[.agg #[], .pointer none, .string (tx L)] w fun e w' => MvNew a b q w e w') (w : World) :
    Calls Tryd.prog 10 #[.string (tx L)] w fun e w' => e = .returned (.tuple #[mv3 a b q, .bool true]) ∧ Below w.heap.size w w' := by
  skip
  have hmf := mkf Tryd.prog
  obtain ⟨hs, hr1, hr2, hB⟩ := laidR_facts w
  replace hdec := Lib.hid hdec
  go_enter_defers Tryd.func10, Tryd.ntmps10
  go_upto_region 2 with (fail)
  change Code.wp _ _ _ _ (laidR w)
  generalize laidR w = w1 at *
  go_wp2_with (fail)
  refine (hdec.out _).mono ?_
  rintro e w2 ⟨g, hg, rfl, hm, hb2⟩
  have q1 := rowIs_below hr1 hb2 (by omega)
  have q2 := rowIs_below hr2 hb2 (by omega)
  have qB := hB.trans (hb2.mono hB.size)
  clear hr1 hr2 hB hb2 hdec
  go_wp2_with (fail)
  refine (plainMove_any g a b q 0 ha hb hq w2 hm).mono ?_
  rintro e w3 ⟨rfl, hb3⟩
  replace q1 := rowIs_below q1 hb3 q1.lt
  replace q2 := rowIs_below q2 hb3 q2.lt
  replace qB := qB.trans (hb3.mono qB.size)
  clear hm hg hb3

  try unfold mv3
  have z1 := row_store q1 #[.int .i64 a, .int .i64 b, .int .i64 q] rfl
  have z2 := q2.of_block (setCells_other w.heap.size [.int .i64 a, .int .i64 b, .int .i64 q] 0 w3 (w.heap.size + 1) (by omega))
  have zB := below_setCells (Nat.le_refl _) [.int .i64 a, .int .i64 b, .int .i64 q] 0 _ qB
  have zc : (w3.setCells w.heap.size 0 [.int .i64 a, .int .i64 b, .int .i64 q]).cell? ⟨w.heap.size + 1, 0, none⟩ = some (.bool false) := z2.cell (i := 0) (by omega)
  have zf := z2.frozen 0
  have y1 := z1.setOther (a := ⟨w.heap.size + 1, 0, none⟩) (by simp) (.bool true)
  have y2 := z2.set 0 (.bool true)
  have yB := Lib.hid (zB.setCell (p := ⟨w.heap.size + 1, 0, none⟩) (by simp) (.bool true))
  have e0 := y1.cell (i := 0) (by omega)
  have e1 := y1.cell (i := 1) (by omega)
  have e2 := y1.cell (i := 2) (by omega)
  have e3 := y2.cell (i := 0) (by omega)
  simp only [if_pos] at e3
  have hth := Lib.hid (rowIs_there q1)
  clear z1 z2 zB y1 y2 q1 q2 qB
  change (w3.setCells w.heap.size 0 [.int .i64 a, .int .i64 b, .int .i64 q]).cell? ⟨w.heap.size + 1, 0, none⟩ = _ at zc
  go_wp2_with (refine wpList_store_mid rfl 25 _ _ rfl w.heap.size 0 #[.int .i64 a, .int .i64 b, .int .i64 q] rfl rfl hth.out (by kernel_rfl) (by simp [Value.oneCell']) ?_)
  refine leaves_cons (f := 25) (args := #[.pointer (some ⟨w.heap.size, 0, none⟩), .pointer (some ⟨w.heap.size + 1, 0, none⟩)]) (by simp) (by simp [go_sem]) ?_; refine (clo_UciRead _ _ _).mono ?_; rintro e u' w'' ⟨rfl, rfl, rfl⟩
  simp [Leaves, settle, results, Tryd.results10, asAddr, go_sem, e0, e1, e2, e3]
  first | exact yB.out | exact ⟨rfl, yB.out⟩
end Go.Proofs.YtoigijloeillbaaDoor

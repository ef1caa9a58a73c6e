/- The text of a move between two squares: the reference's parts. -/
import Derived.Test.YtoigijloeillbaaDoorPoE
import Derived.Deep.RegionHeld3
import Derived.Deep.Cut
import Derived.Deep.CutRange
namespace Go.Proofs.YtoigijloeillbaaDoor
open Go.ChangeShapes Go.WideShapes Go.ChangeAt Go.RowKit Go.PlainAid
set_option maxHeartbeats 1000000
set_option linter.unusedVariables false
set_option linter.unusedSimpArgs false
attribute [local go_sem] tx_list tx_size bt_tx

theorem sanFile_any (s : Int) (h0 : 0 ≤ s) (h1 : s < 64) (w : World) : Calls Tryd.prog 48 #[.int .i64 s] w fun e w' => e = .returned (.string (tx [byt (97 + s % 8)])) ∧ Below w.heap.size w w' := by
  have hcv : ∀ (g : Nat) (W : World), W.cell? ⟨g, 0, none⟩ = some (.int .u8 (97 + s % 8)) → (convert 78 9 (.slice (some ⟨g, 0, none⟩) 1 1)).run Tryd.prog W = .ok (.string (tx [byt (97 + s % 8)])) W := fun g W hc =>
    cells_conv g 1 [byt (97 + s % 8)] W fun j hj => by
      have hj : j < 1 := hj
      obtain rfl : j = 0 := by omega
      rw [hc]; show _ = some (Value.int .u8 ((byt (97 + s % 8)).toNat : Int)); rw [byt_nat _ (by omega) (by omega)]
  have e0 : (s : Int).tmod 8 = s % 8 := Int.tmod_eq_emod_of_nonneg h0
  have e1 : (s : Int).tdiv 8 = s / 8 := Int.tdiv_eq_ediv_of_nonneg h0
  have e2 : IntKind.i64.wrap (s / 8) = s / 8 := wrap64 _ (by omega) (by omega)
  go_enter Tryd.func48, Tryd.ntmps48
  go_wp2
  go_ret
  exact ⟨rfl, (Below.refl _ _).alloc (Nat.le_refl _) _⟩
theorem sanRank_any (s : Int) (h0 : 0 ≤ s) (h1 : s < 64) (w : World) : Calls Tryd.prog 49 #[.int .i64 s] w fun e w' => e = .returned (.string (tx [byt (49 + s / 8)])) ∧ Below w.heap.size w w' := by
  have hcv : ∀ (g : Nat) (W : World), W.cell? ⟨g, 0, none⟩ = some (.int .u8 (49 + s / 8)) → (convert 78 9 (.slice (some ⟨g, 0, none⟩) 1 1)).run Tryd.prog W = .ok (.string (tx [byt (49 + s / 8)])) W := fun g W hc =>
    cells_conv g 1 [byt (49 + s / 8)] W fun j hj => by
      have hj : j < 1 := hj
      obtain rfl : j = 0 := by omega
      rw [hc]; show _ = some (Value.int .u8 ((byt (49 + s / 8)).toNat : Int)); rw [byt_nat _ (by omega) (by omega)]
  have e0 : (s : Int).tmod 8 = s % 8 := Int.tmod_eq_emod_of_nonneg h0
  have e1 : (s : Int).tdiv 8 = s / 8 := Int.tdiv_eq_ediv_of_nonneg h0
  have e2 : IntKind.i64.wrap (s / 8) = s / 8 := wrap64 _ (by omega) (by omega)
  go_enter Tryd.func49, Tryd.ntmps49
  go_wp2
  go_ret
  exact ⟨rfl, (Below.refl _ _).alloc (Nat.le_refl _) _⟩
def sqS (s : Int) : List UInt8 := [byt (97 + s % 8), byt (49 + s / 8)]
theorem sanSquare_any (s : Int) (h0 : 0 ≤ s) (h1 : s < 64) (w : World) : Calls Tryd.prog 27 #[.int .i64 s] w fun e w' => e = .returned (.string (tx (sqS s))) ∧ Below w.heap.size w w' := by
  have f1 : decide (s < 0) = false := by simp; omega
  have f2 : decide (63 < s) = false := by simp; omega
  have ht := tx_app [byt (97 + s % 8)] [byt (49 + s / 8)]
  go_enter Tryd.func27, Tryd.ntmps27
  go_wp2_with (first
    | (go_at_call 48; refine (sanFile_any _ ?_ ?_ _).mono ?_; (· omega); (· omega); rintro e w1 ⟨rfl, hb1⟩)
    | (go_at_call 49; refine (sanRank_any _ ?_ ?_ _).mono ?_; (· omega); (· omega); rintro e w2 ⟨rfl, hb2⟩))
  go_ret
  exact ⟨rfl, hb1.trans (hb2.mono hb1.size)⟩
/-- The text of what a pawn becomes. -/
def prS (p : Int) : List UInt8 := if p = 0 then [] else if p = 2 then [113] else if p = 3 then [114] else if p = 4 then [98] else [110]
set_option maxRecDepth 100000 in
theorem specUci_0 (a b : Int) (ha : 0 ≤ a ∧ a < 64) (hb : 0 ≤ b ∧ b < 64) (w : World) :
    Calls Tryd.prog 11 #[mv3 a b 0] w fun e w' => e = .returned (.string (tx (sqS a ++ sqS b ++ prS 0))) ∧ Below w.heap.size w w' := by
  have ht := tx_app (sqS a) (sqS b)
  rw [show prS 0 = [] from rfl, List.append_nil]

  unfold mv3
  go_enter Tryd.func11, Tryd.ntmps11
  go_upto_region 2 with (fail)
  have m0 := (row_lit w #[.int .i64 a, .int .i64 b, .int .i64 0] 25).alloc (.cells #[.string { data := #[] }, .string { data := #[107] }, .string { data := #[113] }, .string { data := #[114] }, .string { data := #[98] }, .string { data := #[110] }, .string { data := #[112] }] 9)
  have m1 := row_lit (w.alloc (.cells #[.int .i64 a, .int .i64 b, .int .i64 0] 25)) #[.string { data := #[] }, .string { data := #[107] }, .string { data := #[113] }, .string { data := #[114] }, .string { data := #[98] }, .string { data := #[110] }, .string { data := #[112] }] 9
  rw [World.size_alloc] at m1
  have mB : Below w.heap.size w ((w.alloc (.cells #[.int .i64 a, .int .i64 b, .int .i64 0] 25)).alloc (.cells #[.string { data := #[] }, .string { data := #[107] }, .string { data := #[113] }, .string { data := #[114] }, .string { data := #[98] }, .string { data := #[110] }, .string { data := #[112] }] 9)) := ((Below.refl _ _).alloc (Nat.le_refl _) _).alloc (by simp) _
  generalize ((w.alloc (.cells #[.int .i64 a, .int .i64 b, .int .i64 0] 25)).alloc (.cells #[.string { data := #[] }, .string { data := #[107] }, .string { data := #[113] }, .string { data := #[114] }, .string { data := #[98] }, .string { data := #[110] }, .string { data := #[112] }] 9)) = w2 at *
  go_cut [4] from 6 to 12 (fun v wx => v = .string (tx (sqS a ++ sqS b)) ∧ Below w2.heap.size w2 wx)
  case first =>
    have c0 : w2.cell? ⟨w.heap.size, 0, none⟩ = some (.int .i64 a) := m0.cell (i := 0) (by simp)
    have c1 : w2.cell? ⟨w.heap.size, 1, none⟩ = some (.int .i64 b) := m0.cell (i := 1) (by simp)
    have hlt := m0.lt
    have hla : (sqS a).length = 2 := rfl
    have hlb : (sqS b).length = 2 := rfl
    have hbb : Below w2.heap.size w2 w2.drew := ⟨rfl, rfl, rfl, Nat.le_refl _, fun _ _ => rfl⟩
    clear m0 m1 mB
    go_region_held3 (fun v => Below w2.heap.size w2 v ∧ v.cell? ⟨w.heap.size, 0, none⟩ = some (.int .i64 a) ∧ v.cell? ⟨w.heap.size, 1, none⟩ = some (.int .i64 b)) (first | (refine ⟨?_, ?_, ?_⟩ <;> assumption) | go_keep) (first | (go_at_call 27; refine (sanSquare_any _ ?_ ?_ _).mono ?_; (· omega); (· omega); rintro e wn ⟨rfl, hbn⟩; have kB := (‹Below w2.heap.size w2 _ ∧ _›).1.trans (hbn.mono (‹Below w2.heap.size w2 _ ∧ _›).1.size); have k0 := kB.cell (p := ⟨w.heap.size, 0, none⟩) hlt; have k1 := kB.cell (p := ⟨w.heap.size, 1, none⟩) hlt; rw [c0] at k0; rw [c1] at k1))
    all_goals
      have hfin := (‹Below w2.heap.size w2 _ ∧ _›).1
      replace hfin := Lib.hid hfin
      go_wp2_with (fail)
      go_meet
      exact ⟨rfl, hfin.out⟩
  case rest =>
    obtain ⟨rfl, hbx⟩ := hcut
    have n0 := rowIs_below m0 hbx m0.lt
    have n1 := rowIs_below m1 hbx m1.lt
    have nB := mB.trans (hbx.mono mB.size)
    have c2 : wc.cell? ⟨w.heap.size, 2, none⟩ = some (.int .i64 0) := n0.cell (i := 2) (by simp)
    have c3 : wc.cell? ⟨w.heap.size + 1, 0, none⟩ = some (.string { data := #[] }) := n1.cell (i := 0) (by simp)
    clear n0 n1 m0 m1 mB hbx
    replace nB := Lib.hid nB
    have hla : (sqS a).length = 2 := rfl
    have hlb : (sqS b).length = 2 := rfl
    go_wp2_with (fail)
    go_ret
    exact ⟨rfl, nB.out⟩
set_option maxRecDepth 100000 in
theorem specUci_1 (a b : Int) (ha : 0 ≤ a ∧ a < 64) (hb : 0 ≤ b ∧ b < 64) (w : World) :
    Calls Tryd.prog 11 #[mv3 a b 2] w fun e w' => e = .returned (.string (tx (sqS a ++ sqS b ++ prS 2))) ∧ Below w.heap.size w w' := by
  have ht := tx_app (sqS a) (sqS b)
  have ht2 : tx (sqS a ++ sqS b) ++ { data := #[113] } = tx (sqS a ++ sqS b ++ prS 2) := tx_app _ _
  generalize sqS a ++ sqS b ++ prS 2 = T at *
  unfold mv3
  go_enter Tryd.func11, Tryd.ntmps11
  go_upto_region 2 with (fail)
  have m0 := (row_lit w #[.int .i64 a, .int .i64 b, .int .i64 2] 25).alloc (.cells #[.string { data := #[] }, .string { data := #[107] }, .string { data := #[113] }, .string { data := #[114] }, .string { data := #[98] }, .string { data := #[110] }, .string { data := #[112] }] 9)
  have m1 := row_lit (w.alloc (.cells #[.int .i64 a, .int .i64 b, .int .i64 2] 25)) #[.string { data := #[] }, .string { data := #[107] }, .string { data := #[113] }, .string { data := #[114] }, .string { data := #[98] }, .string { data := #[110] }, .string { data := #[112] }] 9
  rw [World.size_alloc] at m1
  have mB : Below w.heap.size w ((w.alloc (.cells #[.int .i64 a, .int .i64 b, .int .i64 2] 25)).alloc (.cells #[.string { data := #[] }, .string { data := #[107] }, .string { data := #[113] }, .string { data := #[114] }, .string { data := #[98] }, .string { data := #[110] }, .string { data := #[112] }] 9)) := ((Below.refl _ _).alloc (Nat.le_refl _) _).alloc (by simp) _
  generalize ((w.alloc (.cells #[.int .i64 a, .int .i64 b, .int .i64 2] 25)).alloc (.cells #[.string { data := #[] }, .string { data := #[107] }, .string { data := #[113] }, .string { data := #[114] }, .string { data := #[98] }, .string { data := #[110] }, .string { data := #[112] }] 9)) = w2 at *
  go_cut [4] from 6 to 12 (fun v wx => v = .string (tx (sqS a ++ sqS b)) ∧ Below w2.heap.size w2 wx)
  case first =>
    have c0 : w2.cell? ⟨w.heap.size, 0, none⟩ = some (.int .i64 a) := m0.cell (i := 0) (by simp)
    have c1 : w2.cell? ⟨w.heap.size, 1, none⟩ = some (.int .i64 b) := m0.cell (i := 1) (by simp)
    have hlt := m0.lt
    have hla : (sqS a).length = 2 := rfl
    have hlb : (sqS b).length = 2 := rfl
    have hbb : Below w2.heap.size w2 w2.drew := ⟨rfl, rfl, rfl, Nat.le_refl _, fun _ _ => rfl⟩
    clear m0 m1 mB
    go_region_held3 (fun v => Below w2.heap.size w2 v ∧ v.cell? ⟨w.heap.size, 0, none⟩ = some (.int .i64 a) ∧ v.cell? ⟨w.heap.size, 1, none⟩ = some (.int .i64 b)) (first | (refine ⟨?_, ?_, ?_⟩ <;> assumption) | go_keep) (first | (go_at_call 27; refine (sanSquare_any _ ?_ ?_ _).mono ?_; (· omega); (· omega); rintro e wn ⟨rfl, hbn⟩; have kB := (‹Below w2.heap.size w2 _ ∧ _›).1.trans (hbn.mono (‹Below w2.heap.size w2 _ ∧ _›).1.size); have k0 := kB.cell (p := ⟨w.heap.size, 0, none⟩) hlt; have k1 := kB.cell (p := ⟨w.heap.size, 1, none⟩) hlt; rw [c0] at k0; rw [c1] at k1))
    all_goals
      have hfin := (‹Below w2.heap.size w2 _ ∧ _›).1
      replace hfin := Lib.hid hfin
      go_wp2_with (fail)
      go_meet
      exact ⟨rfl, hfin.out⟩
  case rest =>
    obtain ⟨rfl, hbx⟩ := hcut
    have n0 := rowIs_below m0 hbx m0.lt
    have n1 := rowIs_below m1 hbx m1.lt
    have nB := mB.trans (hbx.mono mB.size)
    have c2 : wc.cell? ⟨w.heap.size, 2, none⟩ = some (.int .i64 2) := n0.cell (i := 2) (by simp)
    have c3 : wc.cell? ⟨w.heap.size + 1, 2, none⟩ = some (.string { data := #[113] }) := n1.cell (i := 2) (by simp)
    clear n0 n1 m0 m1 mB hbx
    replace nB := Lib.hid nB
    have hla : (sqS a).length = 2 := rfl
    have hlb : (sqS b).length = 2 := rfl
    go_wp2_with (fail)
    go_ret
    exact ⟨rfl, nB.out⟩
set_option maxRecDepth 100000 in
theorem specUci_2 (a b : Int) (ha : 0 ≤ a ∧ a < 64) (hb : 0 ≤ b ∧ b < 64) (w : World) :
    Calls Tryd.prog 11 #[mv3 a b 3] w fun e w' => e = .returned (.string (tx (sqS a ++ sqS b ++ prS 3))) ∧ Below w.heap.size w w' := by
  have ht := tx_app (sqS a) (sqS b)
  have ht2 : tx (sqS a ++ sqS b) ++ { data := #[114] } = tx (sqS a ++ sqS b ++ prS 3) := tx_app _ _
  generalize sqS a ++ sqS b ++ prS 3 = T at *
  unfold mv3
  go_enter Tryd.func11, Tryd.ntmps11
  go_upto_region 2 with (fail)
  have m0 := (row_lit w #[.int .i64 a, .int .i64 b, .int .i64 3] 25).alloc (.cells #[.string { data := #[] }, .string { data := #[107] }, .string { data := #[113] }, .string { data := #[114] }, .string { data := #[98] }, .string { data := #[110] }, .string { data := #[112] }] 9)
  have m1 := row_lit (w.alloc (.cells #[.int .i64 a, .int .i64 b, .int .i64 3] 25)) #[.string { data := #[] }, .string { data := #[107] }, .string { data := #[113] }, .string { data := #[114] }, .string { data := #[98] }, .string { data := #[110] }, .string { data := #[112] }] 9
  rw [World.size_alloc] at m1
  have mB : Below w.heap.size w ((w.alloc (.cells #[.int .i64 a, .int .i64 b, .int .i64 3] 25)).alloc (.cells #[.string { data := #[] }, .string { data := #[107] }, .string { data := #[113] }, .string { data := #[114] }, .string { data := #[98] }, .string { data := #[110] }, .string { data := #[112] }] 9)) := ((Below.refl _ _).alloc (Nat.le_refl _) _).alloc (by simp) _
  generalize ((w.alloc (.cells #[.int .i64 a, .int .i64 b, .int .i64 3] 25)).alloc (.cells #[.string { data := #[] }, .string { data := #[107] }, .string { data := #[113] }, .string { data := #[114] }, .string { data := #[98] }, .string { data := #[110] }, .string { data := #[112] }] 9)) = w2 at *
  go_cut [4] from 6 to 12 (fun v wx => v = .string (tx (sqS a ++ sqS b)) ∧ Below w2.heap.size w2 wx)
  case first =>
    have c0 : w2.cell? ⟨w.heap.size, 0, none⟩ = some (.int .i64 a) := m0.cell (i := 0) (by simp)
    have c1 : w2.cell? ⟨w.heap.size, 1, none⟩ = some (.int .i64 b) := m0.cell (i := 1) (by simp)
    have hlt := m0.lt
    have hla : (sqS a).length = 2 := rfl
    have hlb : (sqS b).length = 2 := rfl
    have hbb : Below w2.heap.size w2 w2.drew := ⟨rfl, rfl, rfl, Nat.le_refl _, fun _ _ => rfl⟩
    clear m0 m1 mB
    go_region_held3 (fun v => Below w2.heap.size w2 v ∧ v.cell? ⟨w.heap.size, 0, none⟩ = some (.int .i64 a) ∧ v.cell? ⟨w.heap.size, 1, none⟩ = some (.int .i64 b)) (first | (refine ⟨?_, ?_, ?_⟩ <;> assumption) | go_keep) (first | (go_at_call 27; refine (sanSquare_any _ ?_ ?_ _).mono ?_; (· omega); (· omega); rintro e wn ⟨rfl, hbn⟩; have kB := (‹Below w2.heap.size w2 _ ∧ _›).1.trans (hbn.mono (‹Below w2.heap.size w2 _ ∧ _›).1.size); have k0 := kB.cell (p := ⟨w.heap.size, 0, none⟩) hlt; have k1 := kB.cell (p := ⟨w.heap.size, 1, none⟩) hlt; rw [c0] at k0; rw [c1] at k1))
    all_goals
      have hfin := (‹Below w2.heap.size w2 _ ∧ _›).1
      replace hfin := Lib.hid hfin
      go_wp2_with (fail)
      go_meet
      exact ⟨rfl, hfin.out⟩
  case rest =>
    obtain ⟨rfl, hbx⟩ := hcut
    have n0 := rowIs_below m0 hbx m0.lt
    have n1 := rowIs_below m1 hbx m1.lt
    have nB := mB.trans (hbx.mono mB.size)
    have c2 : wc.cell? ⟨w.heap.size, 2, none⟩ = some (.int .i64 3) := n0.cell (i := 2) (by simp)
    have c3 : wc.cell? ⟨w.heap.size + 1, 3, none⟩ = some (.string { data := #[114] }) := n1.cell (i := 3) (by simp)
    clear n0 n1 m0 m1 mB hbx
    replace nB := Lib.hid nB
    have hla : (sqS a).length = 2 := rfl
    have hlb : (sqS b).length = 2 := rfl
    go_wp2_with (fail)
    go_ret
    exact ⟨rfl, nB.out⟩
set_option maxRecDepth 100000 in
theorem specUci_3 (a b : Int) (ha : 0 ≤ a ∧ a < 64) (hb : 0 ≤ b ∧ b < 64) (w : World) :
    Calls Tryd.prog 11 #[mv3 a b 4] w fun e w' => e = .returned (.string (tx (sqS a ++ sqS b ++ prS 4))) ∧ Below w.heap.size w w' := by
  have ht := tx_app (sqS a) (sqS b)
  have ht2 : tx (sqS a ++ sqS b) ++ { data := #[98] } = tx (sqS a ++ sqS b ++ prS 4) := tx_app _ _
  generalize sqS a ++ sqS b ++ prS 4 = T at *
  unfold mv3
  go_enter Tryd.func11, Tryd.ntmps11
  go_upto_region 2 with (fail)
  have m0 := (row_lit w #[.int .i64 a, .int .i64 b, .int .i64 4] 25).alloc (.cells #[.string { data := #[] }, .string { data := #[107] }, .string { data := #[113] }, .string { data := #[114] }, .string { data := #[98] }, .string { data := #[110] }, .string { data := #[112] }] 9)
  have m1 := row_lit (w.alloc (.cells #[.int .i64 a, .int .i64 b, .int .i64 4] 25)) #[.string { data := #[] }, .string { data := #[107] }, .string { data := #[113] }, .string { data := #[114] }, .string { data := #[98] }, .string { data := #[110] }, .string { data := #[112] }] 9
  rw [World.size_alloc] at m1
  have mB : Below w.heap.size w ((w.alloc (.cells #[.int .i64 a, .int .i64 b, .int .i64 4] 25)).alloc (.cells #[.string { data := #[] }, .string { data := #[107] }, .string { data := #[113] }, .string { data := #[114] }, .string { data := #[98] }, .string { data := #[110] }, .string { data := #[112] }] 9)) := ((Below.refl _ _).alloc (Nat.le_refl _) _).alloc (by simp) _
  generalize ((w.alloc (.cells #[.int .i64 a, .int .i64 b, .int .i64 4] 25)).alloc (.cells #[.string { data := #[] }, .string { data := #[107] }, .string { data := #[113] }, .string { data := #[114] }, .string { data := #[98] }, .string { data := #[110] }, .string { data := #[112] }] 9)) = w2 at *
  go_cut [4] from 6 to 12 (fun v wx => v = .string (tx (sqS a ++ sqS b)) ∧ Below w2.heap.size w2 wx)
  case first =>
    have c0 : w2.cell? ⟨w.heap.size, 0, none⟩ = some (.int .i64 a) := m0.cell (i := 0) (by simp)
    have c1 : w2.cell? ⟨w.heap.size, 1, none⟩ = some (.int .i64 b) := m0.cell (i := 1) (by simp)
    have hlt := m0.lt
    have hla : (sqS a).length = 2 := rfl
    have hlb : (sqS b).length = 2 := rfl
    have hbb : Below w2.heap.size w2 w2.drew := ⟨rfl, rfl, rfl, Nat.le_refl _, fun _ _ => rfl⟩
    clear m0 m1 mB
    go_region_held3 (fun v => Below w2.heap.size w2 v ∧ v.cell? ⟨w.heap.size, 0, none⟩ = some (.int .i64 a) ∧ v.cell? ⟨w.heap.size, 1, none⟩ = some (.int .i64 b)) (first | (refine ⟨?_, ?_, ?_⟩ <;> assumption) | go_keep) (first | (go_at_call 27; refine (sanSquare_any _ ?_ ?_ _).mono ?_; (· omega); (· omega); rintro e wn ⟨rfl, hbn⟩; have kB := (‹Below w2.heap.size w2 _ ∧ _›).1.trans (hbn.mono (‹Below w2.heap.size w2 _ ∧ _›).1.size); have k0 := kB.cell (p := ⟨w.heap.size, 0, none⟩) hlt; have k1 := kB.cell (p := ⟨w.heap.size, 1, none⟩) hlt; rw [c0] at k0; rw [c1] at k1))
    all_goals
      have hfin := (‹Below w2.heap.size w2 _ ∧ _›).1
      replace hfin := Lib.hid hfin
      go_wp2_with (fail)
      go_meet
      exact ⟨rfl, hfin.out⟩
  case rest =>
    obtain ⟨rfl, hbx⟩ := hcut
    have n0 := rowIs_below m0 hbx m0.lt
    have n1 := rowIs_below m1 hbx m1.lt
    have nB := mB.trans (hbx.mono mB.size)
    have c2 : wc.cell? ⟨w.heap.size, 2, none⟩ = some (.int .i64 4) := n0.cell (i := 2) (by simp)
    have c3 : wc.cell? ⟨w.heap.size + 1, 4, none⟩ = some (.string { data := #[98] }) := n1.cell (i := 4) (by simp)
    clear n0 n1 m0 m1 mB hbx
    replace nB := Lib.hid nB
    have hla : (sqS a).length = 2 := rfl
    have hlb : (sqS b).length = 2 := rfl
    go_wp2_with (fail)
    go_ret
    exact ⟨rfl, nB.out⟩
set_option maxRecDepth 100000 in
theorem specUci_4 (a b : Int) (ha : 0 ≤ a ∧ a < 64) (hb : 0 ≤ b ∧ b < 64) (w : World) :
    Calls Tryd.prog 11 #[mv3 a b 5] w fun e w' => e = .returned (.string (tx (sqS a ++ sqS b ++ prS 5))) ∧ Below w.heap.size w w' := by
  have ht := tx_app (sqS a) (sqS b)
  have ht2 : tx (sqS a ++ sqS b) ++ { data := #[110] } = tx (sqS a ++ sqS b ++ prS 5) := tx_app _ _
  generalize sqS a ++ sqS b ++ prS 5 = T at *
  unfold mv3
  go_enter Tryd.func11, Tryd.ntmps11
  go_upto_region 2 with (fail)
  have m0 := (row_lit w #[.int .i64 a, .int .i64 b, .int .i64 5] 25).alloc (.cells #[.string { data := #[] }, .string { data := #[107] }, .string { data := #[113] }, .string { data := #[114] }, .string { data := #[98] }, .string { data := #[110] }, .string { data := #[112] }] 9)
  have m1 := row_lit (w.alloc (.cells #[.int .i64 a, .int .i64 b, .int .i64 5] 25)) #[.string { data := #[] }, .string { data := #[107] }, .string { data := #[113] }, .string { data := #[114] }, .string { data := #[98] }, .string { data := #[110] }, .string { data := #[112] }] 9
  rw [World.size_alloc] at m1
  have mB : Below w.heap.size w ((w.alloc (.cells #[.int .i64 a, .int .i64 b, .int .i64 5] 25)).alloc (.cells #[.string { data := #[] }, .string { data := #[107] }, .string { data := #[113] }, .string { data := #[114] }, .string { data := #[98] }, .string { data := #[110] }, .string { data := #[112] }] 9)) := ((Below.refl _ _).alloc (Nat.le_refl _) _).alloc (by simp) _
  generalize ((w.alloc (.cells #[.int .i64 a, .int .i64 b, .int .i64 5] 25)).alloc (.cells #[.string { data := #[] }, .string { data := #[107] }, .string { data := #[113] }, .string { data := #[114] }, .string { data := #[98] }, .string { data := #[110] }, .string { data := #[112] }] 9)) = w2 at *
  go_cut [4] from 6 to 12 (fun v wx => v = .string (tx (sqS a ++ sqS b)) ∧ Below w2.heap.size w2 wx)
  case first =>
    have c0 : w2.cell? ⟨w.heap.size, 0, none⟩ = some (.int .i64 a) := m0.cell (i := 0) (by simp)
    have c1 : w2.cell? ⟨w.heap.size, 1, none⟩ = some (.int .i64 b) := m0.cell (i := 1) (by simp)
    have hlt := m0.lt
    have hla : (sqS a).length = 2 := rfl
    have hlb : (sqS b).length = 2 := rfl
    have hbb : Below w2.heap.size w2 w2.drew := ⟨rfl, rfl, rfl, Nat.le_refl _, fun _ _ => rfl⟩
    clear m0 m1 mB
    go_region_held3 (fun v => Below w2.heap.size w2 v ∧ v.cell? ⟨w.heap.size, 0, none⟩ = some (.int .i64 a) ∧ v.cell? ⟨w.heap.size, 1, none⟩ = some (.int .i64 b)) (first | (refine ⟨?_, ?_, ?_⟩ <;> assumption) | go_keep) (first | (go_at_call 27; refine (sanSquare_any _ ?_ ?_ _).mono ?_; (· omega); (· omega); rintro e wn ⟨rfl, hbn⟩; have kB := (‹Below w2.heap.size w2 _ ∧ _›).1.trans (hbn.mono (‹Below w2.heap.size w2 _ ∧ _›).1.size); have k0 := kB.cell (p := ⟨w.heap.size, 0, none⟩) hlt; have k1 := kB.cell (p := ⟨w.heap.size, 1, none⟩) hlt; rw [c0] at k0; rw [c1] at k1))
    all_goals
      have hfin := (‹Below w2.heap.size w2 _ ∧ _›).1
      replace hfin := Lib.hid hfin
      go_wp2_with (fail)
      go_meet
      exact ⟨rfl, hfin.out⟩
  case rest =>
    obtain ⟨rfl, hbx⟩ := hcut
    have n0 := rowIs_below m0 hbx m0.lt
    have n1 := rowIs_below m1 hbx m1.lt
    have nB := mB.trans (hbx.mono mB.size)
    have c2 : wc.cell? ⟨w.heap.size, 2, none⟩ = some (.int .i64 5) := n0.cell (i := 2) (by simp)
    have c3 : wc.cell? ⟨w.heap.size + 1, 5, none⟩ = some (.string { data := #[110] }) := n1.cell (i := 5) (by simp)
    clear n0 n1 m0 m1 mB hbx
    replace nB := Lib.hid nB
    have hla : (sqS a).length = 2 := rfl
    have hlb : (sqS b).length = 2 := rfl
    go_wp2_with (fail)
    go_ret
    exact ⟨rfl, nB.out⟩
end Go.Proofs.YtoigijloeillbaaDoor

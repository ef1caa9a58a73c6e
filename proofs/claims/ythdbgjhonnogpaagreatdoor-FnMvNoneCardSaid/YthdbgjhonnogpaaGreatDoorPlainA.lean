/- A position given back as plain data: the getters; the position built out of a board and three numbers. -/
import Derived.Test.YthdbgjhonnogpaaGreatDoorCanA
import Derived.Test.YthdbgjhonnogpaaGreatDoorEqArr
import Derived.Test.YthdbgjhonnogpaaGreatDoorUnguard
import Derived.Deep.Cut
import Derived.Deep.CutRange
import Derived.Great.BuildSlice
namespace Go.Proofs.YthdbgjhonnogpaaGreatDoor
open Go.ChangeShapes Go.WideShapes Go.ChangeAt Go.RowKit Plain
set_option maxHeartbeats 1000000
set_option linter.unusedVariables false
set_option linter.unusedSimpArgs false

theorem getBoard_any (gp gb : Nat) (w : World) (h : w.cell? ⟨gp, 0, none⟩ = some (.pointer (some ⟨gb, 0, none⟩))) :
    Calls Tryz.prog 28 #[.pointer (some ⟨gp, 0, none⟩)] w fun e w' => e = .returned (.pointer (some ⟨gb, 0, none⟩)) ∧ w = w' := by
  go_enter Tryz.func28, Tryz.ntmps28
  go_wp2
  go_ret
  exact ⟨rfl, rfl⟩
theorem getCastle_any (gp : Nat) (t : ByteArray) (w : World) (h : w.cell? ⟨gp, 1, none⟩ = some (.string t)) :
    Calls Tryz.prog 33 #[.pointer (some ⟨gp, 0, none⟩)] w fun e w' => e = .returned (.string t) ∧ w = w' := by
  go_enter Tryz.func33, Tryz.ntmps33
  go_wp2
  go_ret
  exact ⟨rfl, rfl⟩
theorem getHalf_any (gp : Nat) (t : Int) (w : World) (h : w.cell? ⟨gp, 3, none⟩ = some (.int .i64 t)) :
    Calls Tryz.prog 30 #[.pointer (some ⟨gp, 0, none⟩)] w fun e w' => e = .returned (.int .i64 t) ∧ w = w' := by
  go_enter Tryz.func30, Tryz.ntmps30
  go_wp2
  go_ret
  exact ⟨rfl, rfl⟩
theorem getFull_any (gp : Nat) (t : Int) (w : World) (h : w.cell? ⟨gp, 4, none⟩ = some (.int .i64 t)) :
    Calls Tryz.prog 31 #[.pointer (some ⟨gp, 0, none⟩)] w fun e w' => e = .returned (.int .i64 t) ∧ w = w' := by
  go_enter Tryz.func31, Tryz.ntmps31
  go_wp2
  go_ret
  exact ⟨rfl, rfl⟩
theorem getEp_any (gp : Nat) (t : Int) (w : World) (h : w.cell? ⟨gp, 6, none⟩ = some (.int .i8 t)) :
    Calls Tryz.prog 29 #[.pointer (some ⟨gp, 0, none⟩)] w fun e w' => e = .returned (.int .i8 t) ∧ w = w' := by
  go_enter Tryz.func29, Tryz.ntmps29
  go_wp2
  go_ret
  exact ⟨rfl, rfl⟩
/-- A position's cells out of a board and five numbers. -/
def plF (bd : Nat → Int) (t x ep half full : Int) (i : Nat) : Int := if i < 64 then bd i else if i = 64 then t else if i = 65 then x else if i = 66 then ep else if i = 67 then half else full
theorem set_row {n : Nat} {f g : Nat → Value} (k : Nat) (v : Value) (h : ∀ i, i < n → g i = if i = k then v else f i) : (rowArr n f).setIfInBounds k v = rowArr n g := by
  refine rowArr_eq (by rw [Array.size_setIfInBounds, rowArr_size]) fun i hi => ?_
  rw [h i hi]
  by_cases e : i = k
  · subst e
    rw [if_pos rfl, Array.getElem?_setIfInBounds_self_of_lt (by rw [rowArr_size]; exact hi)]
  · rw [if_neg e, Array.getElem?_setIfInBounds_ne (fun h => e h.symm), rowArr_get n f i hi]
theorem plain_row (bd : Nat → Int) (ep half full : Int) :
    (((rowArr 69 fun i => .int .i64 (posOf bd i)).setIfInBounds 66 (.int .i64 ep)).setIfInBounds 67 (.int .i64 half)).setIfInBounds 68 (.int .i64 full) = rowArr 69 fun i => .int .i64 (plF bd 0 0 ep half full i) := by
  have h1 : (rowArr 69 fun i => .int .i64 (posOf bd i)).setIfInBounds 66 (.int .i64 ep) = rowArr 69 fun i => .int .i64 (plF bd 0 0 ep 0 0 i) := set_row 66 _ fun i hi => by
    unfold plF posOf; by_cases a : i < 64
    · rw [if_pos a, if_pos a, if_neg (by omega)]
    · (have : i = 64 ∨ i = 65 ∨ i = 66 ∨ i = 67 ∨ i = 68 := (by omega)); rcases this with rfl | rfl | rfl | rfl | rfl <;> rfl
  have h2 : (rowArr 69 fun i => .int .i64 (plF bd 0 0 ep 0 0 i)).setIfInBounds 67 (.int .i64 half) = rowArr 69 fun i => .int .i64 (plF bd 0 0 ep half 0 i) := set_row 67 _ fun i hi => by
    unfold plF; by_cases a : i < 64
    · rw [if_pos a, if_pos a, if_neg (by omega)]
    · (have : i = 64 ∨ i = 65 ∨ i = 66 ∨ i = 67 ∨ i = 68 := (by omega)); rcases this with rfl | rfl | rfl | rfl | rfl <;> rfl
  have h3 : (rowArr 69 fun i => .int .i64 (plF bd 0 0 ep half 0 i)).setIfInBounds 68 (.int .i64 full) = rowArr 69 fun i => .int .i64 (plF bd 0 0 ep half full i) := set_row 68 _ fun i hi => by
    unfold plF; by_cases a : i < 64
    · rw [if_pos a, if_pos a, if_neg (by omega)]
    · (have : i = 64 ∨ i = 65 ∨ i = 66 ∨ i = 67 ∨ i = 68 := (by omega)); rcases this with rfl | rfl | rfl | rfl | rfl <;> rfl
  rw [h1, h2, h3]
theorem posPlaces (parts : List (Nat × Value)) : Tryz.prog.built 24 parts = Instr.fill ((#[(0, 64), (64, 1), (65, 1), (66, 1), (67, 1), (68, 1)] : Array (Nat × Nat))[·]?) (rowArr 69 fun _ => .int .i64 0) parts := by kernel_rfl
theorem fill_step {place : Nat → Option (Nat × Nat)} {cells R : Array Value} {i off size : Nat} {v : Value} {rest : List (Nat × Value)} (hp : place i = some (off, size)) (h1 : v.cells.size = size) (h2 : off + size ≤ cells.size)
    (hR : Array.foldl (fun (cs : Array Value) (x : Value × Nat) => cs.setIfInBounds (off + x.2) x.1) cells v.cells.zipIdx = R) : Instr.fill place cells ((i, v) :: rest) = Instr.fill place R rest := by
  subst hR
  subst h1
  rw [Instr.fill, hp]
  have e : (decide (v.cells.size ≠ v.cells.size) || decide (off + v.cells.size > cells.size)) = false := by simp; omega
  simp only [e, Bool.false_eq_true, if_false]
theorem built_pos (bd : Nat → Int) (ep half full : Int) : Tryz.prog.built 24 [(0, .agg (rowArr 64 fun i => .int .i64 (bd i))), (3, .int .i64 ep), (4, .int .i64 half), (5, .int .i64 full)] = some (rowArr 69 fun i => .int .i64 (plF bd 0 0 ep half full i)) := by
  have hf := fold_pos bd
  rw [zeroPos'] at hf
  rw [posPlaces,
    fill_step (v := .agg (rowArr 64 fun i => .int .i64 (bd i))) (R := rowArr 69 fun i => .int .i64 (posOf bd i)) (show (#[(0, 64), (64, 1), (65, 1), (66, 1), (67, 1), (68, 1)] : Array (Nat × Nat))[0]? = some (0, 64) from rfl) (show (Value.agg (rowArr 64 fun i => .int .i64 (bd i))).cells.size = 64 from rowArr_size _ _) (by rw [rowArr_size]; omega) (by simpa [Value.cells] using hf),
    fill_step (R := (rowArr 69 fun i => .int .i64 (posOf bd i)).setIfInBounds 66 (.int .i64 ep)) (show (#[(0, 64), (64, 1), (65, 1), (66, 1), (67, 1), (68, 1)] : Array (Nat × Nat))[3]? = some (66, 1) from rfl) rfl (by rw [rowArr_size]; omega) rfl,
    fill_step (R := ((rowArr 69 fun i => .int .i64 (posOf bd i)).setIfInBounds 66 (.int .i64 ep)).setIfInBounds 67 (.int .i64 half)) (show (#[(0, 64), (64, 1), (65, 1), (66, 1), (67, 1), (68, 1)] : Array (Nat × Nat))[4]? = some (67, 1) from rfl) rfl (by rw [Array.size_setIfInBounds, rowArr_size]; omega) rfl,
    fill_step (R := (((rowArr 69 fun i => .int .i64 (posOf bd i)).setIfInBounds 66 (.int .i64 ep)).setIfInBounds 67 (.int .i64 half)).setIfInBounds 68 (.int .i64 full)) (show (#[(0, 64), (64, 1), (65, 1), (66, 1), (67, 1), (68, 1)] : Array (Nat × Nat))[5]? = some (68, 1) from rfl) rfl (by rw [Array.size_setIfInBounds, Array.size_setIfInBounds, rowArr_size]; omega) rfl,
    plain_row]
  rfl
/-- The rights as a number. -/
def orTo (rb : Nat → Bool) : Nat → Int
  | 0 => 0
  | k + 1 => if rb k then bits .or .i64 (orTo rb k) (2 ^ k) else orTo rb k
set_option maxRecDepth 100000 in
theorem plain_any (gp gb : Nat) (bd : Nat → Int) (hbd : ∀ i, i < 64 → 0 ≤ bd i ∧ bd i ≤ 12) (f : Nat → Value) (l : List UInt8) (hl : l.length ≤ 1000000) (half full t ep : Int) (ck : Bool) (w : World)
    (hb : w.rowIs gb tBoard 17 f) (hf : ∀ j, j < 12 → f j = .int .u64 (tn (bbsOf bd j))) (hp : w.rowIs gp tPos 8 (posF gb (tx l) half full t ep ck)) (hP : TabsP w) (ht : t = 1 ∨ t = 2) (hep : -1 ≤ ep ∧ ep < 64) :
    Calls Tryz.prog 12 #[.pointer (some ⟨gp, 0, none⟩)] w fun e w' => e = .returned (intRow 69 (plF bd (t - 1) (orTo (fun k => decide (leC k ∈ l)) 4) ep half full)) ∧ Below w.heap.size w w' := by
  have hB1 : Below w.heap.size w (w.alloc (.cells Tryz.zeroCells24 24)) := (Below.refl _ _).alloc (Nat.le_refl _) _
  have hR0 : (w.alloc (.cells Tryz.zeroCells24 24)).rowIs w.heap.size 24 69 (fun _ => .int .i64 0) := by
    rw [zeroPos']; exact rowIs_new w _ _ _
  have hlt := hp.lt
  have hpp : ∀ wx, Below w.heap.size w wx → wx.rowIs gp tPos 8 (posF gb (tx l) half full t ep ck) := fun wx h => rowIs_below hp h hlt
  have hg0 := Lib.hid (fun wx (h : Below w.heap.size w wx) => getBoard_any gp gb wx ((hpp wx h).cell (i := 0) (by omega)))
  have hg1 := Lib.hid (fun wx (h : Below w.heap.size w wx) => getCastle_any gp (tx l) wx ((hpp wx h).cell (i := 1) (by omega)))
  have hg3 := Lib.hid (fun wx (h : Below w.heap.size w wx) => getHalf_any gp half wx ((hpp wx h).cell (i := 3) (by omega)))
  have hg4 := Lib.hid (fun wx (h : Below w.heap.size w wx) => getFull_any gp full wx ((hpp wx h).cell (i := 4) (by omega)))
  have hg5 := Lib.hid (fun wx (h : Below w.heap.size w wx) => turn_any gp t wx ((hpp wx h).cell (i := 5) (by omega)))
  have hg6 := Lib.hid (fun wx (h : Below w.heap.size w wx) => getEp_any gp ep wx ((hpp wx h).cell (i := 6) (by omega)))
  have hpb := Lib.hid (fun wx (h : Below w.heap.size w wx) => plainBoard_any gb f (bbsOf bd) wx (rowIs_below hb h hb.lt) hf (hP.below h))
  have hbe : (intRow 64 (pieceAt (bbsOf bd)) : Value) = .agg (rowArr 64 fun i => .int .i64 (bd i)) := by
    unfold intRow
    refine congrArg Value.agg (rowArr_eq (rowArr_size _ _) fun i hi => ?_)
    rw [rowArr_get 64 _ i hi, pieceAt_of bd i hi (hbd i hi).1 (hbd i hi).2]
  rw [hbe] at hpb
  have e8 : IntKind.i64.wrap ep = ep := IntWalk.i64_in _ (by omega)
  clear hbe hpp hb hp hP hf
  go_enter Tryz.func12, Tryz.ntmps12
  go_upto_region 1 with (fail)
  have hs1 : (w.alloc (.cells Tryz.zeroCells24 24)).heap.size = w.heap.size + 1 := World.size_alloc _ _
  generalize (w.alloc (.cells Tryz.zeroCells24 24)) = w1 at *
  have hz2 : ∀ w2 : World, (w2.alloc (.cells Tryz.zeroCells24 24)).rowIs w2.heap.size 24 69 (fun _ => .int .i64 0) := fun w2 => by
    rw [zeroPos']; exact rowIs_new w2 _ _ _
  have hzb := Lib.hid (fun w2 => rowIs_block (hz2 w2))
  go_upto_region 2 with (first
    | (refine wpList_store_row rfl 24 _ _ rfl w2.heap.size _ rfl rfl _ _ (hzb.out w2) (by rw [infoPos', rowArr_size]) (by rw [rowArr_size, rowArr_size]) (intRow_one _ _) ?_)
    | (refine wpList_buildTo rfl 24 _ rfl _ rfl (rowArr 69 fun i => .int .i64 (plF bd 0 0 ep half full i)) (Eq.trans (congrArg (Tryz.prog.built 24) ?hl) (built_pos bd ep half full)) ?hr; (case hl => kernel_rfl))
    | (go_at_call 31; refine (hg4.out _ hB2).mono ?_; rintro e w' ⟨rfl, rfl⟩)
    | (go_at_call 30; refine (hg3.out _ hB2).mono ?_; rintro e w' ⟨rfl, rfl⟩)
    | (go_at_call 29; refine (hg6.out _ hB2).mono ?_; rintro e w' ⟨rfl, rfl⟩)
    | (go_at_call 27; refine (hpb.out _ hB1).mono ?_; rintro e w2 ⟨rfl, hb2⟩; have hB2 := hB1.trans (hb2.mono hB1.size))
    | (go_at_call 28; refine (hg0.out _ hB1).mono ?_; rintro e w' ⟨rfl, rfl⟩))
  have hO := rowIs_setRow (hz2 w2) (fun i => .int .i64 (plF bd 0 0 ep half full i))
  have hb3 : Below w2.heap.size w2 ((w2.alloc (.cells Tryz.zeroCells24 24)).setRow w2.heap.size (rowArr 69 fun i => .int .i64 (plF bd 0 0 ep half full i))) := below_setRow ((Below.refl _ _).alloc (Nat.le_refl _) _) (Nat.le_refl _) _
  generalize ((w2.alloc (.cells Tryz.zeroCells24 24)).setRow w2.heap.size (rowArr 69 fun i => .int .i64 (plF bd 0 0 ep half full i))) = w3 at *
  have hsl : w.heap.size < w2.heap.size := by have := hb2.size; omega
  have hR3 : ∀ wx, Below w2.heap.size w3 wx → wx.rowIs w.heap.size 24 69 (fun _ => .int .i64 0) := fun wx h => rowIs_below (rowIs_below (rowIs_below hR0 hb2 (by omega)) hb3 hsl) h hsl
  have hBx : ∀ wx, Below w2.heap.size w3 wx → Below w.heap.size w wx := fun wx h => hB2.trans ((hb3.trans h).mono hB2.size)
  replace hR3 := Lib.hid hR3
  replace hBx := Lib.hid hBx
  replace hsl := Lib.hid hsl
  generalize hO2 : w2.heap.size = O at *
  clear hO2 hb3 hz2 hzb hR0 hb2 hB2 hB1 hs1
  go_upto_if 19 with (go_at_call 32; refine (hg5.out _ (hBx.out _ (Below.refl _ _))).mono ?_; rintro e w' ⟨rfl, rfl⟩)
  go_cut [19] from 19 to 20 (fun x wx => wx.rowIs O 24 69 (fun i => .int .i64 (plF bd (t - 1) 0 ep half full i)) ∧ Below O w3 wx)
  case first =>
    rcases ht with rfl | rfl
    · have hOh := Lib.hid hO
      clear hO
      go_wp2_with (fail)
      go_meet
      exact ⟨hOh.out, Below.refl _ _⟩
    · have c64 : w3.cell? ⟨O, 64, none⟩ = some (.int .i64 (plF bd 0 0 ep half full 64)) := hO.cell (i := 64) (by omega)
      have f64 := hO.frozen 64
      have hOn := Lib.hid ((hO.set 64 (.int .i64 1)).congr (g := fun i => .int .i64 (plF bd (2 - 1) 0 ep half full i)) fun i hi => by
        by_cases e : i = 64
        · subst e; rfl
        · rw [if_neg e]; unfold plF
          by_cases a : i < 64
          · rw [if_pos a, if_pos a]
          · rw [if_neg a, if_neg a, if_neg e, if_neg e])
      have hbn := Lib.hid ((Below.refl O w3).setCell (p := ⟨O, 64, none⟩) (Nat.le_refl _) (.int .i64 1))
      clear hO
      go_wp2_with (fail)
      go_meet
      exact ⟨hOn.out, hbn.out⟩
  case rest =>
    obtain ⟨hO4, hB4⟩ := hcut
    clear hO
    have hC : (wc.alloc (.cells #[.int .i8 1, .int .i8 1, .int .i8 2, .int .i8 2] 52)).rowIs wc.heap.size 52 4 (fun i => .int .i8 ((i : Int) / 2 + 1)) := World.rowIs_alloc wc #[.int .i8 1, .int .i8 1, .int .i8 2, .int .i8 2] 52 (fun i => .int .i8 ((i : Int) / 2 + 1)) (fun i hi => by
      (have hi : i < 4 := hi); (have : i = 0 ∨ i = 1 ∨ i = 2 ∨ i = 3 := (by omega)); rcases this with rfl | rfl | rfl | rfl <;> rfl)
    have hOc := hO4.alloc (.cells #[.int .i8 1, .int .i8 1, .int .i8 2, .int .i8 2] 52)
    have hltO := hO4.lt
    have hB5 : Below O w3 (wc.alloc (.cells #[.int .i8 1, .int .i8 1, .int .i8 2, .int .i8 2] 52)) := hB4.alloc (by omega) _
    go_upto_region 5 with (fail)
    generalize (wc.alloc (.cells #[.int .i8 1, .int .i8 1, .int .i8 2, .int .i8 2] 52)) = w5 at *
    clear hO4 hB4
    go_loopw [23] (fun i wr => ∃ k : Nat, k ≤ 4 ∧ i = .int .i64 (k : Int) ∧ wr.rowIs O 24 69 (fun i => .int .i64 (plF bd (t - 1) (orTo (fun k => decide (leC k ∈ l)) k) ep half full i)) ∧ wr.rowIs wc.heap.size 52 4 (fun i => .int .i8 ((i : Int) / 2 + 1)) ∧ Below O w3 wr) (fun i _ => 4 - (intOf i).toNat)
    case atStart => exact ⟨0, by omega, rfl, hOc, hC, hB5⟩
    case round =>
      clear hOc hC hB5
      obtain ⟨k, hk, rfl, hOk, hCk, hBk⟩ := hrel
      by_cases hlt4 : k < 4
      · have hd : decide ((k : Int) < 4) = true := decide_eq_true (by omega)
        have hkl : (k : Int) < 4 := by omega
        have ek : (k : Int).tmod 2 = (k : Int) % 2 := Int.tmod_eq_emod_of_nonneg (by omega)
        have cC := hCk.cell (i := k) (by omega)
        have hcan := Lib.hid (fun wx => canCastle_any l hl k hlt4 wx)
        have hgC := Lib.hid (hg1.out wr (hBx.out _ hBk))
        have hor : orTo (fun k => decide (leC k ∈ l)) (k + 1) = if decide (leC k ∈ l) then bits .or .i64 (orTo (fun k => decide (leC k ∈ l)) k) (2 ^ k) else orTo (fun k => decide (leC k ∈ l)) k := rfl
        replace hor := Lib.hid hor
        generalize orTo (fun k => decide (leC k ∈ l)) k = V at *
        generalize decide (leC k ∈ l) = RB at *
        replace hOk := Lib.hid hOk
        replace hCk := Lib.hid hCk
        replace hBk := Lib.hid hBk
        have hzO := hOk.out.lt
        have hzC := hCk.out.lt
        cases RB
        · go_wp2_with (first
            | (go_at_call 34; refine (hcan.out _).mono ?_; rintro e w6 ⟨rfl, hb6⟩; have hO6 := Lib.hid (rowIs_below hOk.out hb6 hzO); have hC6 := Lib.hid (rowIs_below hCk.out hb6 hzC); have hB6 := Lib.hid (hBk.out.trans (hb6.mono (Nat.le_of_lt hzO))))
            | (go_at_call 33; refine hgC.out.mono ?_; rintro e w' ⟨rfl, rfl⟩))
          exact ⟨⟨k + 1, by omega, by go_num, by rw [hor.out]; exact hO6.out, hC6.out, hB6.out⟩, by simp [intOf]; omega⟩
        · go_upto_region 8 with (first
            | (go_at_call 34; refine (hcan.out _).mono ?_; rintro e w6 ⟨rfl, hb6⟩; have hO6 := rowIs_below hOk.out hb6 hzO; have hC6 := rowIs_below hCk.out hb6 hzC; have hB6 := hBk.out.trans (hb6.mono (Nat.le_of_lt hzO)))
            | (go_at_call 33; refine hgC.out.mono ?_; rintro e w' ⟨rfl, rfl⟩))
          have c65 : w6.cell? ⟨O, 65, none⟩ = some (.int .i64 V) := hO6.cell (i := 65) (by omega)
          have f65 := hO6.frozen 65
          have hw2 : IntKind.i64.wrap ((2 : Int) ^ k) = 2 ^ k := by
            (have : k = 0 ∨ k = 1 ∨ k = 2 ∨ k = 3 := (by omega)); rcases this with rfl | rfl | rfl | rfl <;> rfl
          have hwr := Lib.hid (fun (v : Int) => (((hO6.set 65 (.int .i64 v)).congr (g := fun i => .int .i64 (plF bd (t - 1) v ep half full i)) fun i hi => by
            by_cases e : i = 65
            · subst e; rfl
            · rw [if_neg e]; unfold plF
              by_cases a : i < 64
              · rw [if_pos a, if_pos a]
              · by_cases a4 : i = 64
                · rw [if_neg a, if_neg a, if_pos a4, if_pos a4]
                · rw [if_neg a, if_neg a, if_neg a4, if_neg a4, if_neg e, if_neg e]) : (w6.setCell ⟨O, 65, none⟩ (.int .i64 v)).rowIs O 24 69 (fun i => .int .i64 (plF bd (t - 1) v ep half full i))))
          have hbw := Lib.hid (fun (v : Int) => hB6.setCell (p := ⟨O, 65, none⟩) (Nat.le_refl _) (.int .i64 v))
          have hcw := Lib.hid (fun (v : Int) => hC6.setOther (a := ⟨O, 65, none⟩) (by simp; omega) (.int .i64 v))
          clear hO6 hC6 hB6
          go_region
          have hO7 := Lib.hid (show (w6.setCell ⟨O, 65, none⟩ (.int .i64 (bits .or .i64 V (2 ^ k)))).drew.rowIs O 24 69 (fun i => .int .i64 (plF bd (t - 1) (bits .or .i64 V (2 ^ k)) ep half full i)) from (hwr.out (bits .or .i64 V (2 ^ k))).of_block rfl)
          have hC7 := Lib.hid (show (w6.setCell ⟨O, 65, none⟩ (.int .i64 (bits .or .i64 V (2 ^ k)))).drew.rowIs wc.heap.size 52 4 (fun i => .int .i8 ((i : Int) / 2 + 1)) from (hcw.out (bits .or .i64 V (2 ^ k))).of_block rfl)
          have hB7 := Lib.hid (hbw.out (bits .or .i64 V (2 ^ k))).drew
          generalize (w6.setCell ⟨O, 65, none⟩ (.int .i64 (bits .or .i64 V (2 ^ k)))).drew = w7 at *
          clear c65 f65 hwr hbw hcw
          go_wp2_with (fail)
          exact ⟨⟨k + 1, by omega, by go_num, by rw [hor.out, if_pos trivial]; exact hO7.out, hC7.out, hB7.out⟩, by simp [intOf]; omega⟩
      · obtain rfl : k = 4 := by omega
        rw [show ((4 : Nat) : Int) = 4 from rfl]
        have hblkO := Lib.hid (rowIs_block hOk)
        have hRz := hR3.out _ hBk
        have hblkR := Lib.hid (rowIs_block hRz)
        have hfin := Lib.hid (show Below w.heap.size w (wr.setRow w.heap.size (rowArr 69 fun i => .int .i64 (plF bd (t - 1) (orTo (fun k => decide (leC k ∈ l)) 4) ep half full i))) from below_setRow (hBx.out _ hBk) (Nat.le_refl _) _)
        have hcell := Lib.hid (rowIs_block (rowIs_setRow hRz (fun i => .int .i64 (plF bd (t - 1) (orTo (fun k => decide (leC k ∈ l)) 4) ep half full i))))
        clear hOk hRz hCk
        generalize hV : orTo (fun k => decide (leC k ∈ l)) 4 = V at *
        replace hV := Lib.hid hV
        go_wp2_with (first
          | (refine wpList_store_row rfl 24 _ _ rfl w.heap.size _ rfl rfl _ _ hblkR.out (by rw [infoPos', rowArr_size]) (by rw [rowArr_size, rowArr_size]) (intRow_one _ _) ?_)
          | (refine wpList_load_row rfl 24 _ rfl O rfl _ _ (0, 0) _ hblkO.out Tryz.underlying24 rfl (by rw [infoPos', rowArr_size]) ?_))
        refine bodyPost_ret (results_cell_row rfl _ _ w.heap.size _ _ (0, 0) _ rfl hcell.out Tryz.underlying24 rfl (by rw [infoPos', rowArr_size])) rfl ?_
        exact ⟨by rw [hV.out]; rfl, hfin.out⟩
end Go.Proofs.YthdbgjhonnogpaaGreatDoor

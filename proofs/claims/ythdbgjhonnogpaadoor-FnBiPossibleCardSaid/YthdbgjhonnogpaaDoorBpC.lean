/- Where a piece may go: the law's walk. -/
import Derived.Test.YthdbgjhonnogpaaDoorBpP
namespace Go.Proofs.YthdbgjhonnogpaaDoor
open Go.ChangeShapes Go.WideShapes Go.ChangeAt Go.RowKit Plain
set_option maxHeartbeats 4000000
set_option linter.unusedVariables false
set_option linter.unusedSimpArgs false

set_option maxRecDepth 100000 in
theorem steps2_any (g : Nat → Int) (hg : ∀ i, i < 64 → 0 ≤ g i ∧ g i ≤ 12) (s : Nat) (hs : s < 64) (w : World) :
    Calls Tryd.prog 11 #[intRow 69 g, .int .i64 (s : Int)] w fun e w' => ReachPost (pawnL g s) w e w' := by
  have hr := rowIs_new w 24 69 (fun i => .int .i64 (g i))
  have hBw : Below w.heap.size w (w.alloc (.cells (rowArr 69 fun i => .int .i64 (g i)) 24)) := (Below.refl _ _).alloc (Nat.le_refl _) _
  have H := Lib.hid (fun w => steps_is g hg s hs w)
  unfold intRow at H
  unfold intRow
  go_enter Tryd.func11, Tryd.ntmps11
  go_upto_region 1 with (fail)
  generalize (w.alloc (.cells (rowArr 69 fun i => .int .i64 (g i)) 24)) = w1 at *
  have hblk := Lib.hid (rowIs_block hr)
  clear hr
  go_wp2_with (first
    | (go_at_call 20; refine (H.out _).mono ?_; rintro e w2 ⟨u, rfl, ho, hb2⟩)
    | (refine wpList_load_row rfl 24 _ rfl w.heap.size rfl _ _ (0, 0) _ hblk.out Tryd.underlying24 rfl (by rw [infoPos', rowArr_size]) ?_))
  go_ret
  exact ⟨u, w1.heap.size, rfl, ho, hBw.size, hBw.trans (hb2.mono hBw.size)⟩

set_option maxRecDepth 100000 in
theorem biPossible_any (g : Nat → Int) (a b : Int) (ha : 0 ≤ a ∧ a ≤ 255) (hb : 0 ≤ b ∧ b ≤ 255) (W : World) (hT : Tabs W) (hP : TabsP W) (hK : KTabs W) :
    Calls Tryd.prog 4 #[intRow 69 g, .int .u8 a, .int .u8 b] W fun e w' => e = .returned (.bool true) ∧ Below W.heap.size W w' := by
  obtain ⟨s, hs, hs64⟩ : ∃ s : Nat, b % 64 = (s : Int) ∧ s < 64 := ⟨(b % 64).toNat, by omega, by omega⟩
  obtain ⟨m, hm, hm6⟩ : ∃ m : Nat, a % 6 = (m : Int) ∧ m < 6 := ⟨(a % 6).toNat, by omega, by omega⟩
  have hbm : b.tmod 64 = (s : Int) := by rw [Int.tmod_eq_emod_of_nonneg hb.1]; exact hs
  have ham : a.tmod 6 = (m : Int) := by rw [Int.tmod_eq_emod_of_nonneg ha.1]; exact hm
  have e1 : IntKind.i64.wrap (1 + (m : Int)) = 1 + (m : Int) := IntWalk.i64_in _ (by omega)
  have hr := rowIs_new W 24 69 (fun i => .int .i64 (g i))
  have hBw : Below W.heap.size W (W.alloc (.cells (rowArr 69 fun i => .int .i64 (g i)) 24)) := (Below.refl _ _).alloc (Nat.le_refl _) _
  have hM := Lib.hid (fun w => mvRight_any g w)
  unfold intRow at hM
  unfold intRow
  go_enter Tryd.func4, Tryd.ntmps4
  go_upto_region 1 with (fail)
  have hs1 : (W.alloc (.cells (rowArr 69 fun i => .int .i64 (g i)) 24)).heap.size = W.heap.size + 1 := World.size_alloc _ _
  generalize (W.alloc (.cells (rowArr 69 fun i => .int .i64 (g i)) 24)) = w1 at *
  have hblk := Lib.hid (rowIs_block hr)
  have hwl := hr.lt
  have hrr : ∀ wz, Below w1.heap.size w1 wz → wz.rowIs W.heap.size 24 69 (fun i => .int .i64 (g i)) := fun wz h => rowIs_below hr h hwl
  replace hrr := Lib.hid hrr
  clear hr
  go_upto_region 3 with (fail)
  clear hbm ham hs hm ha hb e1
  have hk : 1 ≤ 1 + (m : Int) ∧ 1 + (m : Int) ≤ 6 := by omega
  generalize 1 + (m : Int) = k at *
  clear hm6
  go_wp2_with (first
    | (go_at_call 5; fail)
    | (refine wpList_load_row rfl 24 _ rfl W.heap.size rfl _ _ (0, 0) _ hblk.out Tryd.underlying24 rfl (by rw [infoPos', rowArr_size]) ?_))
  refine (hM.out _).mono ?_
  rintro e w2 ⟨⟨y, rfl, hy⟩, hb2⟩
  have hblk2 := Lib.hid (rowIs_block (hrr.out _ hb2))
  cases y
  · clear hy
    go_wp2_with (fail)
    go_ret
    exact ⟨rfl, hBw.trans (hb2.mono hBw.size)⟩
  · obtain ⟨hV, h67, h68⟩ := hy rfl
    obtain ⟨c, hc1, hgc⟩ : ∃ c : Nat, c ≤ 1 ∧ g 64 = (c : Int) := by
      rcases hV.turn with h | h
      · exact ⟨0, by omega, h⟩
      · exact ⟨1, by omega, h⟩
    have hBW2 := hBw.trans (hb2.mono hBw.size)
    have hPo := Lib.hid (fun w3 (h3 : Below W.heap.size W w3) => possible_any g hV c hc1 hgc k hk s hs64 w3 (hT.below h3) (hP.below h3) (hK.below h3))
    unfold intRow at hPo
    have hz : ∀ w3 : World, (w3.alloc (.cells Tryd.zeroCells24 24)).rowIs w3.heap.size 24 69 (fun _ => .int .i64 0) := fun w3 => by
      rw [zeroPos']; exact rowIs_new w3 _ _ _
    have hzb := Lib.hid (fun w3 => rowIs_block (hz w3))
    replace hz := Lib.hid hz
    have hgp : ∀ i, i < 64 → 0 ≤ gput g s (k + 6 * (c : Int)) i ∧ gput g s (k + 6 * (c : Int)) i ≤ 12 := fun i hi => by
      have := hV.board i hi
      unfold gput; split <;> omega
    have hRe := Lib.hid (fun w => reach_any (gput g s (k + 6 * (c : Int))) hgp s hs64 w)
    have hSt := Lib.hid (fun w => steps2_any (gput g s (k + 6 * (c : Int))) hgp s hs64 w)
    have hReq := Lib.hid (fun (h : k ≤ 5) => reach_poss g hV.board c hc1 k ⟨hk.1, h⟩ s hs64)
    have hSeq := Lib.hid (fun (h : k = 6) (h1 : 1 ≤ s / 8) (h6 : s / 8 ≤ 6) => show orB (pawnL (gput g s (k + 6 * (c : Int))) s) = possOf g c k s by rw [h]; exact pawn_poss g hV c hc1 hgc s hs64 h1 h6)
    have hRl := Lib.hid (And.intro (reachL_lt (kindOf (gput g s (k + 6 * (c : Int)) s)) (takenF (gput g s (k + 6 * (c : Int)))) s) (reachL_length (kindOf (gput g s (k + 6 * (c : Int)) s)) (takenF (gput g s (k + 6 * (c : Int)))) s))
    have hSl : Hid ((∀ t ∈ pawnL (gput g s (k + 6 * (c : Int))) s, t < 64) ∧ (pawnL (gput g s (k + 6 * (c : Int))) s).length ≤ 1000000) := by
      refine Lib.hid ⟨fun x hx => ?_, ?_⟩
      · unfold pawnL at hx
        rcases List.mem_append.1 hx with h | h
        · exact stepA_lt _ _ _ _ x h
        · exact hitL_lt _ _ _ x (List.mem_filter.1 h).1
      · unfold pawnL
        have h1 := stepA_len (gput g s (k + 6 * (c : Int))) (sideOf (gput g s (k + 6 * (c : Int)) s)) (upI (sideOf (gput g s (k + 6 * (c : Int)) s))) s
        have h2 := List.length_filter_le (capB (gput g s (k + 6 * (c : Int))) (sideOf (gput g s (k + 6 * (c : Int)) s))) (hitL (upI (sideOf (gput g s (k + 6 * (c : Int)) s))) s 2)
        have h3 := hitL_len (upI (sideOf (gput g s (k + 6 * (c : Int)) s))) s 2
        rw [List.length_append]; omega
    unfold intRow at hRe hSt
    have hgi : Hid (∀ j, (if j = s then Value.int .i64 (k + 6 * (c : Int)) else Value.int .i64 (g j)) = Value.int .i64 (gput g s (k + 6 * (c : Int)) j)) := Lib.hid (fun j => by by_cases h : j = s <;> simp [h, gput])
    clear hV hy hM hT hP hK hgp h67 h68
    replace hgc := Lib.hid hgc
    generalize possOf g c k s = PO at *
    generalize reachL (kindOf (gput g s (k + 6 * (c : Int)) s)) (takenF (gput g s (k + 6 * (c : Int)))) s = RL at *
    generalize pawnL (gput g s (k + 6 * (c : Int))) s = SL at *
    generalize gput g s (k + 6 * (c : Int)) = G at *
    have hsl : (s : Int) < 64 := by omega
    have hof := Lib.hid (of_any k (c : Int) (by omega) (by omega) (by omega) (by omega))
    have hrk := Lib.hid (rank_any (s : Int) (by omega) (by omega))
    cases h6 : (k == 6)
    · have hk5 : k ≤ 5 := by rw [beq_eq_false_iff_ne] at h6; omega
      go_upto_region 5 with (fail)
      go_upto_region 6 with (first
        | (refine wpList_load_row rfl 24 _ rfl W.heap.size rfl _ _ (0, 0) _ hblk2.out Tryd.underlying24 rfl (by rw [infoPos', rowArr_size]) ?_)
        | (refine wpList_store_row rfl 24 _ _ rfl w2.heap.size _ rfl rfl _ _ (hzb.out w2) (by rw [infoPos', rowArr_size]) (by rw [rowArr_size, rowArr_size]) (intRow_one _ _) ?_))
      have hQ := rowIs_setRow (hz.out w2) (fun i => .int .i64 (g i))
      have hb3 : Below w2.heap.size w2 ((w2.alloc (.cells Tryd.zeroCells24 24)).setRow w2.heap.size (rowArr 69 fun i => .int .i64 (g i))) := below_setRow ((Below.refl _ _).alloc (Nat.le_refl _) _) (Nat.le_refl _) _
      generalize ((w2.alloc (.cells Tryd.zeroCells24 24)).setRow w2.heap.size (rowArr 69 fun i => .int .i64 (g i))) = w3 at *
      have hb3' := hb2.trans (hb3.mono hb2.size)
      have hp3 := hrr.out _ hb3'
      have c64 : w3.cell? ⟨W.heap.size, 64, none⟩ = some (.int .i64 (c : Int)) := by rw [← hgc.out]; exact hp3.cell (i := 64) (by omega)
      have hcs := hQ.cell (i := s) (by omega)
      have hfs := hQ.frozen s
      have hQ4 := Lib.hid ((hQ.set s (.int .i64 (k + 6 * (c : Int)))).congr (g := fun i => .int .i64 (G i)) (fun j _ => hgi.out j))
      have hb4 := Lib.hid (hb3'.trans (((Below.refl w3.heap.size w3).mono (by have := hb3.size; have := hb2.size; omega)).setCell (B := w1.heap.size) (p := ⟨w2.heap.size, s, none⟩) hb2.size (.int .i64 (k + 6 * (c : Int)))))
      clear hz hzb hQ hb3 hb3' hp3
      go_upto_region 7 with (go_at_call 9; refine (hof.out _).mono ?_; rintro e w' ⟨rfl, rfl⟩)
      generalize w3.setCell ⟨w2.heap.size, s, none⟩ (.int .i64 (k + 6 * (c : Int))) = w4 at *
      have hblkQ := Lib.hid (rowIs_block hQ4.out)
      clear hQ4 c64 hcs hfs hof hrk hgc
      go_upto_region 10 with (fail)
      go_wp2_with (first
        | (go_at_call 12; fail)
        | (refine wpList_load_row rfl 24 _ rfl w2.heap.size rfl _ _ (0, 0) _ hblkQ.out Tryd.underlying24 rfl (by rw [infoPos', rowArr_size]) ?_))
      refine (hRe.out _).mono ?_
      rintro e w5 ⟨v, B, rfl, hown, hBs, hb5⟩
      have hb5' := hb4.out.trans (hb5.mono hb4.out.size)
      have hbo := Lib.hid (biOf_any v RL w5 hown hRl.out.1 (by have := hRl.out.2; omega))
      rw [hReq.out hk5] at hbo
      have hblk5 := Lib.hid (rowIs_block (hrr.out _ hb5'))
      have hBW5 := hBw.trans (hb5'.mono hBw.size)
      clear hown hBs hb5 hb5' hRl hReq hSt hSl hSeq hRe
      go_wp2_with (first
        | (go_at_call 13; refine (hPo.out _ hBW5).mono ?_; rintro e w6 ⟨rfl, hb6⟩)
        | (go_at_call 10; refine hbo.out.mono ?_; rintro e w' ⟨rfl, rfl⟩)
        | (refine wpList_load_row rfl 24 _ rfl W.heap.size rfl _ _ (0, 0) _ hblk5.out Tryd.underlying24 rfl (by rw [infoPos', rowArr_size]) ?_))
      go_ret
      exact ⟨by simp, hBW5.trans (hb6.mono hBW5.size)⟩
    · have hk6 : k = 6 := by simpa using h6
      subst hk6
      cases h0 : ((s : Int) / 8 == 0)
      rotate_left
      · go_wp2_with (go_at_call 8; refine (hrk.out _).mono ?_; rintro e w' ⟨rfl, rfl⟩)
        go_ret
        exact ⟨rfl, hBW2⟩
      cases h7 : ((s : Int) / 8 == 7)
      rotate_left
      · go_wp2_with (go_at_call 8; refine (hrk.out _).mono ?_; rintro e w' ⟨rfl, rfl⟩)
        go_ret
        exact ⟨rfl, hBW2⟩
      have hr1 : 1 ≤ s / 8 := by rw [beq_eq_false_iff_ne] at h0; omega
      have hr6 : s / 8 ≤ 6 := by rw [beq_eq_false_iff_ne] at h7; omega
      go_upto_region 5 with (go_at_call 8; refine (hrk.out _).mono ?_; rintro e w' ⟨rfl, rfl⟩)
      go_upto_region 6 with (first
        | (refine wpList_load_row rfl 24 _ rfl W.heap.size rfl _ _ (0, 0) _ hblk2.out Tryd.underlying24 rfl (by rw [infoPos', rowArr_size]) ?_)
        | (refine wpList_store_row rfl 24 _ _ rfl w2.heap.size _ rfl rfl _ _ (hzb.out w2) (by rw [infoPos', rowArr_size]) (by rw [rowArr_size, rowArr_size]) (intRow_one _ _) ?_))
      have hQ := rowIs_setRow (hz.out w2) (fun i => .int .i64 (g i))
      have hb3 : Below w2.heap.size w2 ((w2.alloc (.cells Tryd.zeroCells24 24)).setRow w2.heap.size (rowArr 69 fun i => .int .i64 (g i))) := below_setRow ((Below.refl _ _).alloc (Nat.le_refl _) _) (Nat.le_refl _) _
      generalize ((w2.alloc (.cells Tryd.zeroCells24 24)).setRow w2.heap.size (rowArr 69 fun i => .int .i64 (g i))) = w3 at *
      have hb3' := hb2.trans (hb3.mono hb2.size)
      have hp3 := hrr.out _ hb3'
      have c64 : w3.cell? ⟨W.heap.size, 64, none⟩ = some (.int .i64 (c : Int)) := by rw [← hgc.out]; exact hp3.cell (i := 64) (by omega)
      have hcs := hQ.cell (i := s) (by omega)
      have hfs := hQ.frozen s
      have hQ4 := Lib.hid ((hQ.set s (.int .i64 (6 + 6 * (c : Int)))).congr (g := fun i => .int .i64 (G i)) (fun j _ => hgi.out j))
      have hb4 := Lib.hid (hb3'.trans (((Below.refl w3.heap.size w3).mono (by have := hb3.size; have := hb2.size; omega)).setCell (B := w1.heap.size) (p := ⟨w2.heap.size, s, none⟩) hb2.size (.int .i64 (6 + 6 * (c : Int)))))
      clear hz hzb hQ hb3 hb3' hp3
      go_upto_region 7 with (go_at_call 9; refine (hof.out _).mono ?_; rintro e w' ⟨rfl, rfl⟩)
      generalize w3.setCell ⟨w2.heap.size, s, none⟩ (.int .i64 (6 + 6 * (c : Int))) = w4 at *
      have hblkQ := Lib.hid (rowIs_block hQ4.out)
      clear hQ4 c64 hcs hfs hof hrk hgc
      go_upto_region 9 with (fail)
      go_wp2_with (first
        | (go_at_call 11; fail)
        | (refine wpList_load_row rfl 24 _ rfl w2.heap.size rfl _ _ (0, 0) _ hblkQ.out Tryd.underlying24 rfl (by rw [infoPos', rowArr_size]) ?_))
      refine (hSt.out _).mono ?_
      rintro e w5 ⟨v, B, rfl, hown, hBs, hb5⟩
      have hb5' := hb4.out.trans (hb5.mono hb4.out.size)
      have hbo := Lib.hid (biOf_any v SL w5 hown hSl.out.1 hSl.out.2)
      rw [hSeq.out (by trivial) hr1 hr6] at hbo
      have hblk5 := Lib.hid (rowIs_block (hrr.out _ hb5'))
      have hBW5 := hBw.trans (hb5'.mono hBw.size)
      clear hown hBs hb5 hb5' hRl hReq hSt hSl hSeq hRe
      go_wp2_with (first
        | (go_at_call 13; refine (hPo.out _ hBW5).mono ?_; rintro e w6 ⟨rfl, hb6⟩)
        | (go_at_call 10; refine hbo.out.mono ?_; rintro e w' ⟨rfl, rfl⟩)
        | (refine wpList_load_row rfl 24 _ rfl W.heap.size rfl _ _ (0, 0) _ hblk5.out Tryd.underlying24 rfl (by rw [infoPos', rowArr_size]) ?_))
      go_ret
      exact ⟨by simp, hBW5.trans (hb6.mono hBW5.size)⟩
end Go.Proofs.YthdbgjhonnogpaaDoor

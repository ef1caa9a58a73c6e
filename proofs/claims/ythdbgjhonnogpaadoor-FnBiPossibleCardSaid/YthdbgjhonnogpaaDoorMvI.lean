/- The rules' moves, weakly: castling. -/
import Derived.Test.YthdbgjhonnogpaaDoorMvH
namespace Go.Proofs.YthdbgjhonnogpaaDoor
open Go.ChangeShapes Go.WideShapes Go.ChangeAt Go.RowKit Plain
set_option maxHeartbeats 1000000
set_option linter.unusedVariables false
set_option linter.unusedSimpArgs false

/-- A slice of at most n moves. -/
def MvPost (n : Nat) (w : World) (e : Ending) (w' : World) : Prop := ∃ u, e = .returned u ∧ MvOwn w.heap.size n u w' ∧ Below w.heap.size w w'
theorem home_way (k : Nat) : 4 ≤ homeK k ∧ homeK k % 8 = 4 ∧ (homeR k % 8 = 7 ∨ homeR k % 8 = 0) ∧ homeK k / 8 = homeR k / 8 := by
  unfold homeK homeR
  split <;> omega
set_option maxRecDepth 100000 in
theorem castles_any (g : Nat → Int) (hg : ∀ i, i < 64 → 0 ≤ g i ∧ g i ≤ 12) (c : Nat) (hc1 : c ≤ 1) (hgc : g 64 = (c : Int)) (w : World) :
    Calls Tryd.prog 48 #[intRow 69 g] w fun e w' => MvPost 2 w e w' := by
  have hr := rowIs_new w 24 69 (fun i => .int .i64 (g i))
  have hb : Below (w.heap.size + 1) (w.alloc (.cells (rowArr 69 fun i => .int .i64 (g i)) 24)) (w.alloc (.cells (rowArr 69 fun i => .int .i64 (g i)) 24)) := Below.refl _ _
  have hBw : Below w.heap.size w (w.alloc (.cells (rowArr 69 fun i => .int .i64 (g i)) 24)) := (Below.refl _ _).alloc (Nat.le_refl _) _
  have hRi := Lib.hid (fun w => rights_any g w)
  have hAt := fun (q : Nat) (hq : q < 64) w => attacked_any g hg q hq (1 - (c : Int)) (by omega) (by omega) w
  unfold intRow at hRi hAt
  replace hAt := Lib.hid hAt
  have hRG := rightsTo_range g 4
  rw [show rightsTo g 4 = rightsG g from rfl] at hRG
  generalize rightsG g = RG at *
  replace hRG := Lib.hid hRG
  have e1 : IntKind.i64.wrap (2 * (c : Int)) = 2 * c := IntWalk.i64_in _ (by omega)
  unfold intRow
  go_enter Tryd.func48, Tryd.ntmps48
  go_upto_region 1 with (fail)
  have hsz : (w.alloc (.cells (rowArr 69 fun i => .int .i64 (g i)) 24)).heap.size = w.heap.size + 1 := World.size_alloc _ _
  generalize (w.alloc (.cells (rowArr 69 fun i => .int .i64 (g i)) 24)) = w1 at *
  have c64 : w1.cell? ⟨w.heap.size, 64, none⟩ = some (.int .i64 (c : Int)) := by rw [← hgc]; exact hr.cell (i := 64) (by omega)
  have hrA : ∀ wz, Below (w.heap.size + 1) w1 wz → wz.rowIs w.heap.size 24 69 (fun i => .int .i64 (g i)) := fun wz h => rowIs_below hr h (by omega)
  replace hrA := Lib.hid hrA
  replace hBw := Lib.hid hBw
  clear hr hg
  go_wp2_with (fail)
  go_loopw [3, 4] (fun out i wr => ∃ (R q : Nat), i = .int .i64 (R : Int) ∧ R = 2 * c + q ∧ q ≤ 2 ∧ MvOwn (w.heap.size + 1) q out wr ∧ Below (w.heap.size + 1) w1 wr) (fun _ i _ => 4 - (intOf i).toNat)
  case atStart => exact ⟨2 * c, 0, by simp, by omega, by omega, MvOwn.nil _ _ _, hb⟩
  case round =>
    clear hb c64
    obtain ⟨R, q, rfl, hRq, hq, ho, hb⟩ := hrel
    have hrw := hrA.out _ hb
    have c64 : wr.cell? ⟨w.heap.size, 64, none⟩ = some (.int .i64 (c : Int)) := by rw [← hgc]; exact hrw.cell (i := 64) (by omega)
    have hblk := Lib.hid (rowIs_block hrw)
    have hszr : w.heap.size + 1 ≤ wr.heap.size := by have := hb.size; omega
    by_cases hlt : q < 2
    · have hd : decide ((R : Int) < 2 * (c : Int) + 2) = true := decide_eq_true (by omega)
      have hd' : (R : Int) < 2 * (c : Int) + 2 := by omega
      have hR4 : R < 4 := by omega
      have hho := Lib.hid (home_any R hR4)
      have hhl := home_lt R hR4
      have hhw := home_way R
      generalize homeK R = K1 at *
      generalize homeR R = R1 at *
      have hAk := Lib.hid (hAt.out K1 hhl.1)
      clear hrw
      replace ho := Lib.hid ho
      replace hRq := Lib.hid hRq
      go_upto_region 6 with (go_at_call 45; refine (hho.out _).mono ?_; rintro e w' ⟨rfl, rfl⟩)
      clear hho
      go_cut [39] from 26 to 39 (fun x wx => (∃ b, x = .bool b) ∧ Below wr.heap.size wr wx)
      case first =>
        cases z0 : (bits BinOp.and IntKind.i64 (RG / 2 ^ R) 1 == 0)
        all_goals
          go_wp2_with (first
            | (go_at_call 32; refine (hAk.out _).mono ?_; rintro e w3 ⟨rfl, hb3⟩; have hb4 := hb2.trans (hb3.mono hb2.size))
            | (refine wpList_unguard (by rfl) (wpList_load_row rfl 24 _ rfl w.heap.size rfl _ _ (0, 0) _ hblk2.out Tryd.underlying24 rfl (by rw [infoPos', rowArr_size]) ?_))
            | (go_at_call 30; refine (hRi.out _).mono ?_; rintro e w2 ⟨rfl, hb2⟩; have hr2 := hrA.out _ (hb.trans (hb2.mono hszr)); have d64 : w2.cell? ⟨w.heap.size, 64, none⟩ = some (.int .i64 (c : Int)) := (by rw [← hgc]; exact hr2.cell (i := 64) (by omega)); have hblk2 := Lib.hid (rowIs_block hr2); clear hr2)
            | (refine wpList_load_row rfl 24 _ rfl w.heap.size rfl _ _ (0, 0) _ hblk.out Tryd.underlying24 rfl (by rw [infoPos', rowArr_size]) ?_))
          go_meet
        · exact ⟨⟨_, rfl⟩, hb4⟩
        · exact ⟨⟨_, rfl⟩, hb2⟩
      case rest =>
        obtain ⟨⟨b, rfl⟩, hBc⟩ := hcut
        have hbc := hb.trans (hBc.mono hszr)
        have hszc : w.heap.size + 1 ≤ wc.heap.size := Nat.le_trans hszr hBc.size
        have hoc := Lib.hid (ho.out.below hBc)
        have hrc := hrA.out _ hbc
        have d64 : wc.cell? ⟨w.heap.size, 64, none⟩ = some (.int .i64 (c : Int)) := by rw [← hgc]; exact hrc.cell (i := 64) (by omega)
        have hblkc := Lib.hid (rowIs_block hrc)
        have hRb : -1000 ≤ (R : Int) + 1 ∧ (R : Int) + 1 ≤ 1000 := by omega
        clear hb ho hblk c64 hBc hszr hAk hrc
        replace hbc := Lib.hid hbc
        cases b
        · go_upto_if 42 with (fail)
          go_cut [7] from 40 to 42 (fun x wx => wx = wc ∧ ∃ W, x = .int .i64 W ∧ (W = 1 ∧ K1 < R1 ∨ W = -1 ∧ R1 < K1))
          case first =>
            go_wp2_with (fail)
            all_goals
              go_meet
              first
                | exact ⟨rfl, _, rfl, .inl ⟨rfl, by omega⟩⟩
                | exact ⟨rfl, _, rfl, .inr ⟨rfl, by omega⟩⟩
          case rest =>
            obtain ⟨hwc, W, rfl, hW⟩ := hcut
            subst hwc
            have hWb : -1000 ≤ (K1 : Int) + W ∧ (K1 : Int) + W ≤ 1000 := by omega
            have e2 : IntKind.i64.wrap (2 * W) = 2 * W := IntWalk.i64_in _ (by omega)
            have hWc : -1000 ≤ (K1 : Int) + 2 * W ∧ (K1 : Int) + 2 * W ≤ 1000 := by omega
            obtain ⟨x0, hx0, hx1⟩ : ∃ x0 : Nat, (K1 : Int) + W = x0 ∧ x0 < 64 := ⟨((K1 : Int) + W).toNat, by omega, by omega⟩
            have hAx := fun v => hAt.out x0 hx1 v
            rw [← hx0] at hAx
            generalize attB g x0 (1 - (c : Int)) = AX at *
            replace hAx := Lib.hid hAx
            replace hx0 := Lib.hid hx0
            obtain ⟨t0, ht0, ht1⟩ : ∃ t0 : Nat, (K1 : Int) + 2 * W = t0 ∧ t0 < 64 := ⟨((K1 : Int) + 2 * W).toNat, by omega, by omega⟩
            replace ht0 := Lib.hid ht0
            replace hW := Lib.hid hW
            go_upto_region 11 with (first
              | (go_at_call 32; refine (hAx.out _).mono ?_; rintro e w3 ⟨rfl, hb3⟩; have hb4 := hbc.out.trans (hb3.mono hszc); have hr3 := hrA.out _ hb4; have ho3 := Lib.hid (hoc.out.below hb3); have hs3 := hb3.size; clear hb3; replace hb4 := Lib.hid hb4; clear d64 hblkc)
              | (refine wpList_load_row rfl 24 _ rfl w.heap.size rfl _ _ (0, 0) _ hblkc.out Tryd.underlying24 rfl (by rw [infoPos', rowArr_size]) ?_))
            generalize (!AX) = F at *
            clear hAx hbc hoc
            have hWW := hW.out
            go_upto_region 12 with (fail)
            go_loopw [8, 9] (fun fr i wx => ∃ (y : Nat) (f : Bool), fr = .bool f ∧ i = .int .i64 (y : Int) ∧ (W = 1 ∧ K1 < y ∧ y ≤ R1 ∨ W = -1 ∧ R1 ≤ y ∧ y < K1) ∧ wx = w3) (fun _ i _ => (intOf i - (R1 : Int)).natAbs)
            case atStart => exact ⟨x0, F, rfl, by rw [hx0.out], by have := hx0.out; omega, rfl⟩
            case round =>
              clear hWW
              obtain ⟨y, f, rfl, rfl, hy, rfl⟩ := hrel
              have hy64 : y < 64 := by omega
              have hyl : (y : Int) < 64 := by omega
              by_cases hyR : y = R1
              · have hne : ((y : Int) != (R1 : Int)) = false := by simp [hyR]
                clear hy hyR
                obtain ⟨l, hl1, hl2, hl3⟩ := ho3.out
                have henc : encM (K1, t0, 0) = [.int .i64 (K1 : Int), .int .i64 ((K1 : Int) + 2 * W), .int .i64 0] := by
                  show [Value.int .i64 (K1 : Int), Value.int .i64 (t0 : Int), Value.int .i64 ((0 : Nat) : Int)] = _
                  rw [ht0.out]; rfl
                replace henc := Lib.hid henc
                replace hl1 := Lib.hid hl1
                replace hl3 := Lib.hid hl3
                have hbO := hb4
                cases f
                · go_wp2_with (fail)
                  exact ⟨⟨R + 1, q + 1, by go_num, by have := hRq.out; omega, by omega, (show MvOwn (w.heap.size + 1) q u3 wr from ⟨l, hl1.out, hl2, hl3.out⟩).mono (Nat.le_succ _), hbO.out⟩, by simp [intOf]; have := hRq.out; omega⟩
                · go_wp2_with (at_builtin; refine wpList_appL rfl _ _ 37 rfl (w.heap.size + 1) 58 (.agg #[.int .i64 0, .int .i64 0, .int .i64 0]) 3 24 Tryd.underlying37 infoMv rfl (by decide) _ l.length (mvs l) rfl hl3.out hb4.out (by omega) [.int .i64 (K1 : Int), .int .i64 ((K1 : Int) + 2 * W), .int .i64 0] (by rw [← henc.out]; exact one_encM _) rfl _ rfl rfl (by omega) (by decide) ?_; intro g2 cap w5 hown5 hb5 hkp hat; rw [← henc.out] at hown5; have ho5 := Lib.hid (MvOwn.next hl1.out (m := (K1, t0, 0)) ⟨hhl.1, ht1, by simp⟩ hl2 hown5); replace hb5 := Lib.hid hb5; clear hown5 hkp hat)
                  exact ⟨⟨R + 1, q + 1, by go_num, by have := hRq.out; omega, by omega, ho5.out, hb5.out⟩, by simp [intOf]; have := hRq.out; omega⟩
              · have hne : ((y : Int) != (R1 : Int)) = true := by simp; omega
                have cy : wr.cell? ⟨w.heap.size, y, none⟩ = some (.int .i64 (g y)) := hr3.cell (i := y) (by omega)
                obtain ⟨z, hz⟩ : ∃ z : Nat, (y : Int) + W = z := ⟨((y : Int) + W).toNat, by omega⟩
                have hyW : -1000 ≤ (y : Int) + W ∧ (y : Int) + W ≤ 1000 := by omega
                have hzz : W = 1 ∧ K1 < z ∧ z ≤ R1 ∨ W = -1 ∧ R1 ≤ z ∧ z < K1 := by omega
                have hme : ((z : Int) - (R1 : Int)).natAbs < ((y : Int) - (R1 : Int)).natAbs := by omega
                replace hz := Lib.hid hz
                replace hzz := Lib.hid hzz
                replace hme := Lib.hid hme
                clear hy
                cases f
                · go_wp2_with (fail)
                  exact ⟨⟨z, _, rfl, by rw [hz.out], hzz.out, by trivial⟩, by simp only [intOf]; rw [hz.out]; exact hme.out⟩
                · cases hgy : (g y == 0)
                  all_goals
                    go_wp2_with (fail)
                    exact ⟨⟨z, _, rfl, by rw [hz.out], hzz.out, by trivial⟩, by simp only [intOf]; rw [hz.out]; exact hme.out⟩
        · go_wp2_with (fail)
          exact ⟨⟨R + 1, q + 1, by go_num, by have := hRq.out; omega, by omega, hoc.out.mono (Nat.le_succ _), hbc.out⟩, by simp [intOf]; have := hRq.out; omega⟩
    · obtain rfl : q = 2 := by omega
      have hd : decide ((R : Int) < 2 * (c : Int) + 2) = false := decide_eq_false (by omega)
      go_wp2_with (fail)
      go_ret
      refine ⟨_, rfl, ho.weak (Nat.le_succ _), hBw.out.trans (hb.mono ?_)⟩
      omega
end Go.Proofs.YthdbgjhonnogpaaDoor

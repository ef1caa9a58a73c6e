/- The walk of the law FnBdDraw. -/
import Derived.Test.YtnlicbhelnocpaaDoorDrawI
import Derived.Test.YtnlicbhelnocpaaDoorSq
import Derived.Test.YtnlicbhelnocpaaDoorUnguard
import Derived.Test.YtnlicbhelnocpaaDoorOpenArr
namespace Go.Proofs.YtnlicbhelnocpaaDoor.Draw
open Go.ChangeShapes Go.WideShapes Go.ChangeAt Go.RowKit Plain
set_option maxHeartbeats 1000000
set_option linter.unusedVariables false
set_option linter.unusedSimpArgs false
attribute [local go_sem] tx_mk tx_app tx_size sg_len rankS_len List.length_append List.length_cons List.length_nil

theorem conv1 (w : World) (c0 : Int) : (convert 22 9 (.slice (some ⟨w.heap.size, 0, none⟩) 1 1)).run Tryd.prog (w.alloc (.cells #[.int .u8 c0] 5)) = .ok (.string (tx [byteOf c0])) (w.alloc (.cells #[.int .u8 c0] 5)) := by
  rw [run_convert_bytes_string _ _ _ _ _ _ _ Tryd.underlying22 Tryd.underlying5 Tryd.underlying9]
  rw [run_bytesToString (w.alloc (.cells #[.int .u8 c0] 5)) ⟨w.heap.size, 0, none⟩ 1 1 [c0] (run_loadCells_list (P := Tryd.prog) _ _ [.int .u8 c0] fun j v hj => cells_new rfl j v hj)]
  rfl
theorem headTx_succ (black : Bool) (k : Nat) : headTx black (k + 1) = headTx black k ++ [32, byteOf (65 + (turn black k : Nat))] := rfl
theorem headTx_len (black : Bool) : ∀ k, (headTx black k).length = 1 + 2 * k
  | 0 => rfl
  | k + 1 => by rw [headTx_succ, List.length_append, headTx_len black k]; simp; omega
set_option maxRecDepth 100000 in
theorem walk_right (bd : Nat → Int) (hR : Right bd) (black dark : Bool) (W : World) (hT : TabsP W) (hU : TabsU W) :
    Calls Tryd.prog 5 #[intRow 64 bd, .bool black, .bool dark] W fun e w' => e = .returned (.bool true) ∧ Below W.heap.size W w' := by
  have h1 := rowIs_new W 23 64 (fun i => .int .i64 (bd i))
  have hb1 : Below W.heap.size W (W.alloc (.cells (rowArr 64 fun i => .int .i64 (bd i)) 23)) := (Below.refl _ _).alloc (Nat.le_refl _) _
  have hs1 : (W.alloc (.cells (rowArr 64 fun i => .int .i64 (bd i)) 23)).heap.size = W.heap.size + 1 := by simp
  unfold intRow
  have hT1 := hT.below hb1
  have hU1 := hU.below hb1
  replace hs1 := Lib.hid hs1
  replace hb1 := Lib.hid hb1
  clear hT hU
  go_enter Tryd.func5, Tryd.ntmps5
  go_wp2_with (first
    | (go_at_call 10; refine (bdRight_true bd hR (W.alloc (.cells (rowArr 64 fun i => .int .i64 (bd i)) 23))).mono ?_; rintro e w2 ⟨rfl, hb2⟩; have h2 := rowIs_below h1 hb2 (by rw [hs1.out]; omega); have hT2 := hT1.below hb2; have hU2 := hU1.below hb2)
    | (refine wpList_load_row rfl 23 _ rfl W.heap.size rfl _ _ (0, 0) _ (rowIs_block h1) Tryd.underlying23 rfl (by rw [info64, rowArr_size]) ?_))
  replace hT2 := Lib.hid hT2
  replace hU2 := Lib.hid hU2
  have hB2 := hb1.out.trans (hb2.mono hb1.out.size)
  have hlt2 : W.heap.size < w2.heap.size := h2.lt
  clear h1 hb2 hT1 hU1
  have hcv := conv1
  go_loopw [7, 8, 9] (fun s i _ wr => ∃ k : Nat, k ≤ 8 ∧ i = .int .i64 k ∧ s = .string (tx (headTx black k)) ∧ Below w2.heap.size w2 wr) (fun _ i _ _ => 8 - (intOf i).toNat)
  case atStart => exact ⟨0, by omega, rfl, rfl, Below.refl _ _⟩
  case round =>
    obtain ⟨k, hk, rfl, rfl, hb⟩ := hrel
    have hl := headTx_len black k
    replace hb := Lib.hid hb
    by_cases hlt : k < 8
    · have hs := Lib.hid (headTx_succ black k)
      cases black
      · have e1 : IntKind.u8.wrap (65 + (k : Int)) = 65 + (k : Int) := IntWalk.u8_in _ (by omega)
        have e2 := Lib.hid (show 65 + ((turn false k : Nat) : Int) = 65 + (k : Int) by simp [turn])
        go_wp2
        go_roundw
        case rel => exact ⟨k + 1, by omega, by go_num, by rw [hs.out, e2.out], hb.out.alloc hb.out.size _⟩
        case measure => simp [intOf]; omega
      · have e1 : IntKind.u8.wrap (65 + (7 - (k : Int))) = 65 + (7 - (k : Int)) := IntWalk.u8_in _ (by omega)
        have e2 := Lib.hid (show 65 + ((turn true k : Nat) : Int) = 65 + (7 - (k : Int)) by simp [turn]; omega)
        go_wp2
        go_roundw
        case rel => exact ⟨k + 1, by omega, by go_num, by rw [hs.out, e2.out], hb.out.alloc hb.out.size _⟩
        case measure => simp [intOf]; omega
    · obtain rfl : k = 8 := by omega
      go_wp2
      rw [show ((8 : Nat) : Int) = 8 from rfl]
      clear hl hlt hk
      have hp0 := Lib.hid (show picTx black dark bd 0 = headTx black 8 ++ [10] from rfl)
      obtain ⟨w3, rfl⟩ : ∃ w3 : World, w3 = wr := ⟨_, rfl⟩
      have hlt2' := hlt2
      clear hlt2
      go_loopw [7, 10] (fun s i wr => ∃ k : Nat, k ≤ 8 ∧ i = .int .i64 k ∧ s = .string (tx (picTx black dark bd k)) ∧ Below w2.heap.size w2 wr) (fun _ i _ => 8 - (intOf i).toNat)
      case atStart => exact ⟨0, by omega, rfl, by rw [hp0.out], hb.out⟩
      case round =>
        clear hb
        obtain ⟨k, hk, rfl, rfl, hb⟩ := hrel
        have lp := picTx_len black dark bd k
        by_cases hlt : k < 8
        · replace hb := Lib.hid hb
          cases black
          · skip
            have e1 : IntKind.u8.wrap (49 + (7 - (k : Int))) = 49 + (7 - (k : Int)) := IntWalk.u8_in _ (by omega)
            have hL : (picTx false dark bd k ++ [byteOf (49 + (7 - (k : Int)))]).length ≤ 400 := by simp only [List.length_append, List.length_cons, List.length_nil]; omega
            have hpic : picTx false dark bd (k + 1) = (picTx false dark bd k ++ [byteOf (49 + (7 - (k : Int)))]) ++ (rowTx dark (fun j => bd (8 * (7 - k) + j)) 8 ++ [10]) := by
              have e : rankS ((turn (!false) k : Nat) : Int) = [byteOf (49 + (7 - (k : Int)))] := by (rw [show ((turn (!false) k : Nat) : Int) = (7 - (k : Int)) by unfold turn; first | (simp; done) | (simp; omega)]; rfl)
              rw [picTx_succ, lineTx, e]
              simp only [List.append_assoc]
              rfl
            replace hpic := Lib.hid hpic
            have hLdef : ∃ L, L = picTx false dark bd k ++ [byteOf (49 + (7 - (k : Int)))] := ⟨_, rfl⟩
            obtain ⟨L, hLd⟩ := hLdef
            rw [← hLd] at hL hpic
            replace hLd := Lib.hid hLd
            have hdk : decide ((k : Int) < 8) = true := by simp; omega
            go_wp2
            go_loopw [7, 12] (fun s i ws => ∃ j : Nat, j ≤ 8 ∧ i = .int .i64 j ∧ s = .string (tx (L ++ rowTx dark (fun j => bd (8 * (7 - k) + j)) j)) ∧ Below w2.heap.size w2 ws) (fun _ i _ => 8 - (intOf i).toNat)
            case atStart => exact ⟨0, by omega, rfl, by rw [hLd.out]; simp [rowTx], hb.out.alloc hb.out.size _⟩
            case round =>
              clear lp
              obtain ⟨j, hj, rfl, rfl, hb⟩ := hrel
              have lr := rowTx_len dark (fun j => bd (8 * (7 - k) + j)) j
              by_cases hlt2 : j < 8
              · have hn : 8 * (7 - k) + j < 64 := by omega
                have hbn := hR _ hn
                have hcell := (rowIs_below h2 hb hlt2').cell (i := 8 * (7 - k) + j) (by omega)
                have hat := fun v => at_any (j : Int) (7 - (k : Int)) (by omega) (by omega) (by omega) (by omega) v
                rw [show atOf (j : Int) (7 - (k : Int)) = ((8 * (7 - k) + j : Nat) : Int) by unfold atOf; rw [if_pos (by omega)]; omega] at hat
                have hsucc := rowTx_succ dark (fun j => bd (8 * (7 - k) + j)) j
                have hct : cellTx dark (bd (8 * (7 - k) + j)) = (if bd (8 * (7 - k) + j) = 0 then [45] else sg dark (bd (8 * (7 - k) + j))) ++ [32] := rfl
                generalize hnn : 8 * (7 - k) + j = n at hn hbn hcell hat
                have hbd : bd (8 * (7 - k) + j) = bd n := by rw [hnn]
                rw [hbd] at hsucc hct
                clear hbd hnn
                generalize bd n = x at *
                have hU3 := Lib.hid (hU2.out.below hb)
                replace hb := Lib.hid hb
                replace hat := Lib.hid hat
                replace hsucc := Lib.hid hsucc
                by_cases hx : x = 0
                · subst hx
                  rw [if_pos rfl] at hct
                  replace hct := Lib.hid hct
                  go_wp2_with (go_at_call 14; refine (hat.out _).mono ?_; rintro e w' ⟨rfl, rfl⟩)
                  go_roundw
                  case rel => exact ⟨j + 1, by omega, by go_num, by rw [hsucc.out, hct.out]; (try simp only [List.append_assoc]); try rfl, hb.out⟩
                  case measure => simp [intOf]; omega
                · have hne : (x != 0) = true := by simpa using hx
                  rw [if_neg hx] at hct
                  replace hct := Lib.hid hct
                  have hsig := Lib.hid fun v hv => pieceSign_any x (by omega) hbn.2 dark v hv
                  clear hx
                  go_wp2_with (first
                    | (go_at_call 14; refine (hat.out _).mono ?_; rintro e w' ⟨rfl, rfl⟩)
                    | (go_at_call 15; refine (hsig.out _ hU3.out).mono ?_; rintro e w5 ⟨rfl, hb5⟩))
                  go_roundw
                  case rel => exact ⟨j + 1, by omega, by go_num, by rw [hsucc.out, hct.out]; (try simp only [List.append_assoc]); try rfl, hb.out.trans (hb5.mono hb.out.size)⟩
                  case measure => simp [intOf]; omega
              · obtain rfl : j = 8 := by omega
                replace hb := Lib.hid hb
                go_wp2
                go_roundw
                case rel => exact ⟨k + 1, by omega, by go_num, by rw [hpic.out]; (try simp only [List.append_assoc]); try rfl, hb.out⟩
                case measure => simp [intOf]; omega
          · skip
            have e1 : IntKind.u8.wrap (49 + (k : Int)) = 49 + (k : Int) := IntWalk.u8_in _ (by omega)
            have hL : (picTx true dark bd k ++ [byteOf (49 + (k : Int))]).length ≤ 400 := by simp only [List.length_append, List.length_cons, List.length_nil]; omega
            have hpic : picTx true dark bd (k + 1) = (picTx true dark bd k ++ [byteOf (49 + (k : Int))]) ++ (rowTx dark (fun j => bd (8 * k + (7 - j))) 8 ++ [10]) := by
              have e : rankS ((turn (!true) k : Nat) : Int) = [byteOf (49 + (k : Int))] := by (rw [show ((turn (!true) k : Nat) : Int) = (k : Int) by unfold turn; first | (simp; done) | (simp; omega)]; rfl)
              rw [picTx_succ, lineTx, e]
              simp only [List.append_assoc]
              rfl
            replace hpic := Lib.hid hpic
            have hLdef : ∃ L, L = picTx true dark bd k ++ [byteOf (49 + (k : Int))] := ⟨_, rfl⟩
            obtain ⟨L, hLd⟩ := hLdef
            rw [← hLd] at hL hpic
            replace hLd := Lib.hid hLd
            have hdk : decide ((k : Int) < 8) = true := by simp; omega
            go_wp2
            go_loopw [7, 12] (fun s i ws => ∃ j : Nat, j ≤ 8 ∧ i = .int .i64 j ∧ s = .string (tx (L ++ rowTx dark (fun j => bd (8 * k + (7 - j))) j)) ∧ Below w2.heap.size w2 ws) (fun _ i _ => 8 - (intOf i).toNat)
            case atStart => exact ⟨0, by omega, rfl, by rw [hLd.out]; simp [rowTx], hb.out.alloc hb.out.size _⟩
            case round =>
              clear lp
              obtain ⟨j, hj, rfl, rfl, hb⟩ := hrel
              have lr := rowTx_len dark (fun j => bd (8 * k + (7 - j))) j
              by_cases hlt2 : j < 8
              · have hn : 8 * k + (7 - j) < 64 := by omega
                have hbn := hR _ hn
                have hcell := (rowIs_below h2 hb hlt2').cell (i := 8 * k + (7 - j)) (by omega)
                have hat := fun v => at_any (7 - (j : Int)) (k : Int) (by omega) (by omega) (by omega) (by omega) v
                rw [show atOf (7 - (j : Int)) (k : Int) = ((8 * k + (7 - j) : Nat) : Int) by unfold atOf; rw [if_pos (by omega)]; omega] at hat
                have hsucc := rowTx_succ dark (fun j => bd (8 * k + (7 - j))) j
                have hct : cellTx dark (bd (8 * k + (7 - j))) = (if bd (8 * k + (7 - j)) = 0 then [45] else sg dark (bd (8 * k + (7 - j)))) ++ [32] := rfl
                generalize hnn : 8 * k + (7 - j) = n at hn hbn hcell hat
                have hbd : bd (8 * k + (7 - j)) = bd n := by rw [hnn]
                rw [hbd] at hsucc hct
                clear hbd hnn
                generalize bd n = x at *
                have hU3 := Lib.hid (hU2.out.below hb)
                replace hb := Lib.hid hb
                replace hat := Lib.hid hat
                replace hsucc := Lib.hid hsucc
                by_cases hx : x = 0
                · subst hx
                  rw [if_pos rfl] at hct
                  replace hct := Lib.hid hct
                  go_wp2_with (go_at_call 14; refine (hat.out _).mono ?_; rintro e w' ⟨rfl, rfl⟩)
                  go_roundw
                  case rel => exact ⟨j + 1, by omega, by go_num, by rw [hsucc.out, hct.out]; (try simp only [List.append_assoc]); try rfl, hb.out⟩
                  case measure => simp [intOf]; omega
                · have hne : (x != 0) = true := by simpa using hx
                  rw [if_neg hx] at hct
                  replace hct := Lib.hid hct
                  have hsig := Lib.hid fun v hv => pieceSign_any x (by omega) hbn.2 dark v hv
                  clear hx
                  go_wp2_with (first
                    | (go_at_call 14; refine (hat.out _).mono ?_; rintro e w' ⟨rfl, rfl⟩)
                    | (go_at_call 15; refine (hsig.out _ hU3.out).mono ?_; rintro e w5 ⟨rfl, hb5⟩))
                  go_roundw
                  case rel => exact ⟨j + 1, by omega, by go_num, by rw [hsucc.out, hct.out]; (try simp only [List.append_assoc]); try rfl, hb.out.trans (hb5.mono hb.out.size)⟩
                  case measure => simp [intOf]; omega
              · obtain rfl : j = 8 := by omega
                replace hb := Lib.hid hb
                go_wp2
                go_roundw
                case rel => exact ⟨k + 1, by omega, by go_num, by rw [hpic.out]; (try simp only [List.append_assoc]); try rfl, hb.out⟩
                case measure => simp [intOf]; omega
        · obtain rfl : k = 8 := by omega
          have hT3 := hT2.out.below hb
          have hU3 := hU2.out.below hb
          have h3 := rowIs_below h2 hb hlt2'
          have hdr := Lib.hid (implDraw_any bd hR black dark wr hT3 hU3)
          have hB3 := Lib.hid (hB2.trans (hb.mono hB2.size))
          clear hT3 hU3 hb h2
          go_wp2_with (first
            | (refine wpList_load_row rfl 23 _ rfl W.heap.size rfl _ _ (0, 0) _ (rowIs_block h3) Tryd.underlying23 rfl (by rw [info64, rowArr_size]) ?_)
            | (go_at_call 16; refine hdr.out.mono ?_; rintro e w6 ⟨rfl, hb6⟩))
          go_ret
          exact ⟨rfl, hB3.out.trans (hb6.mono hB3.out.size)⟩
set_option maxRecDepth 100000 in
theorem walk_wrong (bd : Nat → Int) (hR : ¬ Right bd) (black dark : Bool) (W : World) :
    Calls Tryd.prog 5 #[intRow 64 bd, .bool black, .bool dark] W fun e w' => e = .returned (.bool true) ∧ Below W.heap.size W w' := by
  have h1 := rowIs_new W 23 64 (fun i => .int .i64 (bd i))
  have hb1 : Below W.heap.size W (W.alloc (.cells (rowArr 64 fun i => .int .i64 (bd i)) 23)) := (Below.refl _ _).alloc (Nat.le_refl _) _
  replace hb1 := Lib.hid hb1
  unfold intRow
  go_enter Tryd.func5, Tryd.ntmps5
  go_wp2_with (first
    | (go_at_call 10; refine (bdRight_false bd hR (W.alloc (.cells (rowArr 64 fun i => .int .i64 (bd i)) 23))).mono ?_; rintro e w2 ⟨rfl, hb2⟩)
    | (refine wpList_load_row rfl 23 _ rfl W.heap.size rfl _ _ (0, 0) _ (rowIs_block h1) Tryd.underlying23 rfl (by rw [info64, rowArr_size]) ?_))
  go_ret
  exact ⟨rfl, hb1.out.trans (hb2.mono hb1.out.size)⟩
end Go.Proofs.YtnlicbhelnocpaaDoor.Draw

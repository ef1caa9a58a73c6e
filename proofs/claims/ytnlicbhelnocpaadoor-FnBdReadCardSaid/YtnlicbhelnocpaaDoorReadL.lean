/- The walk of the law FnBdRead. -/
import Derived.Test.YtnlicbhelnocpaaDoorBoardRead
import Derived.Test.YtnlicbhelnocpaaDoorReadS
import Derived.Test.YtnlicbhelnocpaaDoorSq
import Derived.Test.YtnlicbhelnocpaaDoorUnguard
import Derived.Test.YtnlicbhelnocpaaDoorEqArr
import Derived.StillTailTactics
import Derived.BigQuiet
namespace Go.Proofs.YtnlicbhelnocpaaDoor.BdRead
open Go.ChangeShapes Go.WideShapes Go.ChangeAt Go.RowKit Go.Maps Go.PlainAid Plain
set_option maxHeartbeats 2000000
set_option linter.unusedVariables false
set_option linter.unusedSimpArgs false

def told : ByteArray := ⟨#[107, 55, 47, 56, 47, 56, 47, 56, 47, 56, 47, 56, 47, 56, 47, 55, 75]⟩
theorem told_ok : readOk told = true := by kernel_rfl
theorem told_k : readBd told 56 = 7 := by kernel_rfl
theorem told_K : readBd told 7 = 1 := by kernel_rfl
theorem told_128 : ∀ i, i < told.size → bt told i < 128 := by
  intro i hi
  have hi : i < 17 := hi
  have : i = 0 ∨ i = 1 ∨ i = 2 ∨ i = 3 ∨ i = 4 ∨ i = 5 ∨ i = 6 ∨ i = 7 ∨ i = 8 ∨ i = 9 ∨ i = 10 ∨ i = 11 ∨ i = 12 ∨ i = 13 ∨ i = 14 ∨ i = 15 ∨ i = 16 := by omega
  rcases this with rfl | rfl | rfl | rfl | rfl | rfl | rfl | rfl | rfl | rfl | rfl | rfl | rfl | rfl | rfl | rfl | rfl <;> decide
theorem told_end : opn told told.size < told.size ∨ told.size = 0 := .inl (by decide)
theorem own_strs {w : World} {B : Nat} {t : TypeId} {v : Value} {l : List ByteArray} (h : w.ownsRow B t 1 v l.length (strs l)) (hl : 0 < l.length) :
    ∃ g cap, v = .slice (some ⟨g, 0, none⟩) l.length cap ∧ B ≤ g ∧ g < w.heap.size ∧ ∀ i, i < l.length → w.cell? ⟨g, i, none⟩ = some (.string (l.getD i ByteArray.empty)) := by
  obtain ⟨_, h | ⟨g, cap, cur, hv, hB, hg, hc1, hc2, hc3, hc4⟩⟩ := h
  · omega
  · refine ⟨g, cap, hv, hB, ?_, fun i hi => ?_⟩
    · rcases Nat.lt_or_ge g w.heap.size with h | h
      · exact h
      · rw [Array.getElem?_eq_none h] at hg; cases hg
    · unfold World.cell?
      rw [hg]
      have h1 : (cur.toList.take (l.length * 1))[i]? = (strs l)[i]? := by rw [hc4]
      rw [List.getElem?_take_of_lt (by omega)] at h1
      simp only [strs, List.getElem?_map, List.getElem?_eq_getElem hi, Option.map_some] at h1
      simp [List.getD_eq_getElem?_getD, List.getElem?_eq_getElem hi] at h1 ⊢
      exact h1
theorem partsB_pos (s : ByteArray) : 0 < (partsB s).length := by unfold partsB; simp
/-- The board while a rank is handed over. -/
def inV (s : ByteArray) (k t : Nat) (q : Nat) : Int := if 7 - q / 8 = k ∧ q % 8 < t then readBd s q else fenV s k q
theorem inV_zero (s : ByteArray) (k q : Nat) : inV s k 0 q = fenV s k q := by unfold inV; rw [if_neg (by omega)]
theorem inV_end (s : ByteArray) (k q : Nat) : inV s k 8 q = fenV s (k + 1) q := by
  unfold inV fenV
  by_cases e : 7 - q / 8 = k
  · rw [if_pos ⟨e, by omega⟩, if_pos (by omega)]
  · rw [if_neg (fun x => e x.1)]
    by_cases e2 : 7 - q / 8 < k
    · rw [if_pos e2, if_pos (by omega)]
    · rw [if_neg e2, if_neg (by omega)]
theorem inV_step {s : ByteArray} {k t : Nat} (hk : k < 8) (ht : t < 8) (q : Nat) (hq : q < 64) : (if q = 8 * (7 - k) + t then rRow (partAt s k) t else inV s k t q) = inV s k (t + 1) q := by
  unfold inV
  by_cases e : q = 8 * (7 - k) + t
  · rw [if_pos e, if_pos (by omega)]
    unfold readBd
    rw [show 7 - q / 8 = k by omega, show q % 8 = t by omega]
  · rw [if_neg e]
    by_cases e2 : 7 - q / 8 = k ∧ q % 8 < t
    · rw [if_pos e2, if_pos (by omega)]
    · rw [if_neg e2, if_neg (by omega)]
/-- What the loop over the parts knows behind k of them. -/
def Got (s : ByteArray) (k : Nat) (b : Bool) (f : Nat → Int) : Prop := (b = true ∧ (partsB s).length = 8 ∧ (∀ j, j < k → rOk (partAt s j) = true) ∧ ∀ q, q < 64 → f q = fenV s k q) ∨ (b = false ∧ readOk s = false)
theorem readOk_true {s : ByteArray} (hl : (partsB s).length = 8) (h : ∀ j, j < 8 → rOk (partAt s j) = true) : readOk s = true := by
  unfold readOk
  rw [hl]
  simp only [beq_self_eq_true, Bool.true_and]
  rw [List.all_eq_true]
  intro i hi
  exact h i (List.mem_range.1 hi)
set_option maxRecDepth 100000 in
theorem walk_long (s : ByteArray) (hs : 2147483647 < s.size) (W : World) :
    Calls Tryd.prog 6 #[.string s] W fun e w' => e = .returned (.bool true) ∧ Below W.heap.size W w' := by
  have hd : decide ((2147483647 : Int) < (s.size : Int)) = true := by simp; omega
  go_enter Tryd.func6, Tryd.ntmps6
  go_wp2
  go_ret
  exact ⟨rfl, Below.refl _ _⟩
/-- What lies behind the first reading. -/
theorem first_facts (W w1 : World) (hb1 : Below W.heap.size W w1) :
    (w1.alloc (.cells zero64 23)).rowIs w1.heap.size 23 64 (fun _ => .int .i64 0) ∧
    (((w1.alloc (.cells zero64 23)).setRow w1.heap.size (rowArr 64 fun i => .int .i64 (readBd told i))).cell? ⟨w1.heap.size, 56, none⟩ = some (.int .i64 7) ∧
     ((w1.alloc (.cells zero64 23)).setRow w1.heap.size (rowArr 64 fun i => .int .i64 (readBd told i))).cell? ⟨w1.heap.size, 7, none⟩ = some (.int .i64 1) ∧
     Below W.heap.size W ((w1.alloc (.cells zero64 23)).setRow w1.heap.size (rowArr 64 fun i => .int .i64 (readBd told i)))) := by
  have hZ : (w1.alloc (.cells zero64 23)).rowIs w1.heap.size 23 64 (fun _ => .int .i64 0) := by rw [zeroRow]; exact rowIs_new w1 _ _ _
  have hR := rowIs_setRow hZ (fun i => .int .i64 (readBd told i))
  have h1 := hR.cell (i := 56) (by omega)
  have h2 := hR.cell (i := 7) (by omega)
  simp only [told_k, told_K] at h1 h2
  exact ⟨hZ, h1, h2, below_setRow (hb1.alloc hb1.size _) hb1.size _⟩
theorem last_facts (w6 : World) (f : Nat → Int) :
    (w6.alloc (.cells zero64 23)).rowIs w6.heap.size 23 64 (fun _ => .int .i64 0) ∧
    ((w6.alloc (.cells zero64 23)).setRow w6.heap.size (rowArr 64 fun i => .int .i64 (f i))).rowIs w6.heap.size 23 64 (fun i => .int .i64 (f i)) ∧
    Below w6.heap.size w6 ((w6.alloc (.cells zero64 23)).setRow w6.heap.size (rowArr 64 fun i => .int .i64 (f i))) := by
  have hZ : (w6.alloc (.cells zero64 23)).rowIs w6.heap.size 23 64 (fun _ => .int .i64 0) := by rw [zeroRow]; exact rowIs_new w6 _ _ _
  exact ⟨hZ, rowIs_setRow hZ _, below_setRow ((Below.refl _ _).alloc (Nat.le_refl _) _) (Nat.le_refl _) _⟩
theorem rankS_ok {T : ByteArray} {w w' : World} {e : Ending} (h : RankS T w e w') (hok : rOk T = true) : (∃ g, e = .returned (.tuple #[.slice (some ⟨g, 0, none⟩) 8 8, .bool true]) ∧ w.heap.size ≤ g ∧ w'.rowIs g 3 8 (fun j => .int .i64 (rRow T j))) ∧ Below w.heap.size w w' :=
  h.elim (fun h => h.2) (fun h => absurd (hok.symm.trans h.1) (by simp))
theorem rankS_bad {T : ByteArray} {w w' : World} {e : Ending} (h : RankS T w e w') (hok : rOk T = false) : e = .returned (.tuple #[.slice none 0 0, .bool false]) ∧ Below w.heap.size w w' :=
  h.elim (fun h => absurd (h.1.symm.trans hok) (by simp)) (fun h => h.2)
theorem got_zero (s : ByteArray) : Got s 0 (((partsB s).length : Int) == 8) (fun _ => 0) := by
  by_cases h : (partsB s).length = 8
  · exact .inl ⟨by simp [h], h, fun j hj => by omega, fun q _ => by unfold fenV; rw [if_neg (by omega)]⟩
  · exact .inr ⟨by simpa using (fun e => h (by omega)), readOk_false_len h⟩
set_option maxRecDepth 100000 in
theorem walk_200 (s : ByteArray) (hs : s.size ≤ 2147483647) (h200 : 200 < s.size) (W : World) (hT : TabsP W) (hF : TabsF W) :
    Calls Tryd.prog 6 #[.string s] W fun e w' => e = .returned (.bool true) ∧ Below W.heap.size W w' := by
  have hd : decide ((2147483647 : Int) < (s.size : Int)) = false := by simp; omega
  have hsz : s.size ≤ 9223372036854775807 := by omega
  have hget := get_bt s
  have hfirst := Lib.hid (implBoardRead_any told (by decide) told_128 told_end W hT hF)
  have hd2 : decide ((200 : Int) < (s.size : Int)) = true := by simp; omega
  go_enter Tryd.func6, Tryd.ntmps6
  go_wp2_with (first
      | (go_at_call 17; refine hfirst.out.mono ?_; rintro e w1 ⟨hor, hb1⟩; obtain rfl := hor.elim (fun h => h.2) (fun h => absurd (told_ok.symm.trans h.1) (by simp)); clear hor; unfold intRow; obtain ⟨hZ1, hX1⟩ := first_facts W w1 hb1; generalize hg1 : w1.heap.size = g1 at *)
      | (refine wpList_store_row rfl 23 _ _ rfl g1 _ rfl rfl _ _ (rowIs_block hZ1) (by rw [info64, rowArr_size]) (by rw [rowArr_size, rowArr_size]) (intRow_one _ _) ?_; change wpList _ _ _ _ _ ((w1.alloc (.cells zero64 23)).setRow g1 (rowArr 64 fun i => .int .i64 (readBd told i))); generalize ((w1.alloc (.cells zero64 23)).setRow g1 (rowArr 64 fun i => .int .i64 (readBd told i))) = w2 at *; obtain ⟨hc56, hc7, hB2⟩ := hX1; clear hZ1 hb1))
  go_ret
  exact ⟨rfl, hB2⟩
set_option maxRecDepth 100000 in
theorem walk_slash (s : ByteArray) (hs : s.size ≤ 200) (h0 : 0 < s.size) (hc : bt s (s.size - 1) = 47) (W : World) (hT : TabsP W) (hF : TabsF W) :
    Calls Tryd.prog 6 #[.string s] W fun e w' => e = .returned (.bool true) ∧ Below W.heap.size W w' := by
  have hd : decide ((2147483647 : Int) < (s.size : Int)) = false := by simp; omega
  have hsz : s.size ≤ 9223372036854775807 := by omega
  have hget := get_bt s
  have hfirst := Lib.hid (implBoardRead_any told (by decide) told_128 told_end W hT hF)
  have hd2 : decide ((200 : Int) < (s.size : Int)) = false := by simp; omega
  have hd3 : decide (0 < s.size) = true := by simpa using h0
  have hce : (bt s (s.size - 1) == 47) = true := by simpa using hc
  replace hc := Lib.hid hc
  go_enter Tryd.func6, Tryd.ntmps6
  go_wp2_with (first
      | (go_at_call 17; refine hfirst.out.mono ?_; rintro e w1 ⟨hor, hb1⟩; obtain rfl := hor.elim (fun h => h.2) (fun h => absurd (told_ok.symm.trans h.1) (by simp)); clear hor; unfold intRow; obtain ⟨hZ1, hX1⟩ := first_facts W w1 hb1; generalize hg1 : w1.heap.size = g1 at *)
      | (refine wpList_store_row rfl 23 _ _ rfl g1 _ rfl rfl _ _ (rowIs_block hZ1) (by rw [info64, rowArr_size]) (by rw [rowArr_size, rowArr_size]) (intRow_one _ _) ?_; change wpList _ _ _ _ _ ((w1.alloc (.cells zero64 23)).setRow g1 (rowArr 64 fun i => .int .i64 (readBd told i))); generalize ((w1.alloc (.cells zero64 23)).setRow g1 (rowArr 64 fun i => .int .i64 (readBd told i))) = w2 at *; obtain ⟨hc56, hc7, hB2⟩ := hX1; clear hZ1 hb1))
  go_ret
  exact ⟨rfl, hB2⟩
set_option maxRecDepth 100000 in
theorem walk_short (s : ByteArray) (hs : s.size ≤ 200) (hl : s.size = 0 ∨ (0 < s.size ∧ bt s (s.size - 1) ≠ 47)) (W : World) (hT : TabsP W) (hF : TabsF W) :
    Calls Tryd.prog 6 #[.string s] W fun e w' => e = .returned (.bool true) ∧ Below W.heap.size W w' := by
  have hd : decide ((2147483647 : Int) < (s.size : Int)) = false := by simp; omega
  have hsz : s.size ≤ 9223372036854775807 := by omega
  have hget := get_bt s
  have hfirst := Lib.hid (implBoardRead_any told (by decide) told_128 told_end W hT hF)
  have hd2 : decide ((200 : Int) < (s.size : Int)) = false := by simp; omega
  have hend : opn s s.size < s.size ∨ s.size = 0 := by
    rcases hl with h | ⟨hm, hc⟩
    · exact .inr h
    · left
      obtain ⟨m, hm⟩ : ∃ m, s.size = m + 1 := ⟨s.size - 1, by omega⟩
      rw [hm] at hc ⊢
      rw [Nat.add_sub_cancel] at hc
      have : opn s (m + 1) = if bt s m = 47 then m + 1 else opn s m := rfl
      rw [this, if_neg hc]
      have := opn_le s m
      omega
  have hmid : ∃ b, decide (0 < s.size) = b ∧ (b = true → (bt s (s.size - 1) == 47) = false) := by
    rcases hl with h | ⟨hm, hc⟩
    · exact ⟨false, by simp [h], by simp⟩
    · exact ⟨true, by simpa using hm, fun _ => by simpa using hc⟩
  obtain ⟨b, hd3, hx⟩ := hmid
  replace hend := Lib.hid hend
  clear hl
  cases b
  all_goals
    (try have hc := hx rfl)
    (try have h0 : 0 < s.size := of_decide_eq_true hd3)
    clear hx
    go_enter Tryd.func6, Tryd.ntmps6
    go_wp2_with (first
        | (go_at_call 17; refine hfirst.out.mono ?_; rintro e w1 ⟨hor, hb1⟩; obtain rfl := hor.elim (fun h => h.2) (fun h => absurd (told_ok.symm.trans h.1) (by simp)); clear hor; unfold intRow; obtain ⟨hZ1, hX1⟩ := first_facts W w1 hb1; generalize hg1 : w1.heap.size = g1 at *)
        | (refine wpList_store_row rfl 23 _ _ rfl g1 _ rfl rfl _ _ (rowIs_block hZ1) (by rw [info64, rowArr_size]) (by rw [rowArr_size, rowArr_size]) (intRow_one _ _) ?_; change wpList _ _ _ _ _ ((w1.alloc (.cells zero64 23)).setRow g1 (rowArr 64 fun i => .int .i64 (readBd told i))); generalize ((w1.alloc (.cells zero64 23)).setRow g1 (rowArr 64 fun i => .int .i64 (readBd told i))) = w2 at *; obtain ⟨hc56, hc7, hB2⟩ := hX1; clear hZ1 hb1))
    (try clear hc h0)
    clear hc56 hc7 hg1 hd hd2 hd3 hfirst
    replace hB2 := Lib.hid hB2
    go_loopw [5] (fun i wr => ∃ k : Nat, k ≤ s.size ∧ i = .int .i64 k ∧ (∀ j, j < k → bt s j < 128) ∧ w2 = wr) (fun i _ => s.size - (intOf i).toNat)
    case atStart => exact ⟨0, by omega, rfl, fun j hj => by omega, rfl⟩
    case round =>
      obtain ⟨k, hk, rfl, h128, rfl⟩ := hrel
      replace h128 := Lib.hid h128
      by_cases hlt : k < s.size
      · have hgk := hget k hlt
        clear hget
        by_cases hc : bt s k < 128
        · have hce : decide (128 ≤ bt s k) = false := by simp; omega
          go_wp2
          go_roundw
          case rel => exact ⟨k + 1, by omega, by go_num, fun j hj => by rcases Nat.lt_succ_iff_lt_or_eq.1 hj with h | rfl; exact h128.out j h; exact hc, trivial⟩
          case measure => simp [intOf]; omega
        · have hce : decide (128 ≤ bt s k) = true := by simp; omega
          go_wp2
          go_ret
          exact ⟨rfl, hB2.out⟩
      · obtain rfl : k = s.size := by omega
        have hT2 := Lib.hid (hT.below hB2.out)
        have hF2 := Lib.hid (hF.below hB2.out)
        have hpt := fun k => part_facts s h128.out k
        replace hpt := Lib.hid hpt
        clear hT hF hget
        go_wp2_with (go_at_call 18; refine (bdParts_any s (by omega) _).mono ?_; rintro e w3 ⟨⟨v, rfl, hown⟩, hb3⟩; obtain ⟨gp, cp, rfl, hgp, hgl, hcells⟩ := own_strs hown (partsB_pos s))
        clear hown
        have hr4 : (w3.alloc (.cells zero64 23)).rowIs w3.heap.size 23 64 (fun j => .int .i64 ((fun _ => 0) j)) := by rw [zeroRow]; exact rowIs_new w3 _ _ _
        have hb4 : Below w3.heap.size w3 (w3.alloc (.cells zero64 23)) := (Below.refl _ _).alloc (Nat.le_refl _) _
        have hg0 := got_zero s
        have hcells : ∀ i, i < (partsB s).length → w3.cell? ⟨gp, i, none⟩ = some (.string (partAt s i)) := hcells
        replace hcells := Lib.hid hcells
        generalize hL : (partsB s).length = L at *
        replace hL := Lib.hid hL
        generalize hgb : w3.heap.size = gb at *
        replace hgb := Lib.hid hgb
        go_loopw [7, 9, 10, 11, 12] (fun b i _ _ _ wi => ∃ (k : Nat) (bb : Bool) (f : Nat → Int), k ≤ L ∧ i = .int .i64 k ∧ b = .bool bb ∧ wi.rowIs gb 23 64 (fun j => .int .i64 (f j)) ∧ Got s k bb f ∧ Below gb w3 wi) (fun _ i _ _ _ _ => L - (intOf i).toNat)
        case atStart => exact ⟨0, _, _, Nat.zero_le _, rfl, rfl, hr4, hg0, hb4⟩
        case round =>
          clear hr4 hb4 hg0
          obtain ⟨k, bb, f, hk, rfl, rfl, hr, hgot, hb⟩ := hrel
          rcases hgot with ⟨rfl, hl8, hall, hf⟩ | ⟨rfl, hno⟩
          · rw [hL.out] at hl8
            by_cases hkl : k < L
            · have hk8 : k < 8 := by omega
              replace hl8 := Lib.hid hl8
              have hcell := cell_below (by rw [hgb.out]; exact hb) (hcells.out k hkl)
              have hrk := Lib.hid (specRank_any (partAt s k) (by have := (hpt.out k).1; omega) (hpt.out k).2 wr)
              by_cases hok : rOk (partAt s k) = true
              · replace hok := Lib.hid hok
                obtain ⟨wo, rfl⟩ : ∃ wo : World, wo = wr := ⟨_, rfl⟩
                go_wp2_with (go_at_call 19; refine hrk.out.mono ?_; rintro e w5 hrs; obtain ⟨⟨gl, rfl, hgl5, hrl⟩, hb5⟩ := rankS_ok hrs hok.out)
                have hr5 := (rowIs_below hr hb5 hr.lt).congr (g := fun j => .int .i64 (inV s k 0 j)) fun j hj => by rw [inV_zero, hf j hj]
                have hBA := hb.trans (hb5.mono (by rw [← hgb.out]; exact hb.size))
                have hne : gl ≠ gb := by have := hr.lt; omega
                clear hrk hcell hr hb hb5
                go_loopw [12] (fun t wj => ∃ m : Nat, m ≤ 8 ∧ t = .int .i64 m ∧ wj.rowIs gb 23 64 (fun j => .int .i64 (inV s k m j)) ∧ wj.rowIs gl 3 8 (fun j => .int .i64 (rRow (partAt s k) j)) ∧ Below gb w3 wj) (fun t _ => 8 - (intOf t).toNat)
                case atStart => exact ⟨0, by omega, rfl, hr5, hrl, hBA⟩
                case round =>
                  clear hr5 hrl hBA
                  obtain ⟨m, hm, rfl, hr, hrl, hb⟩ := hrel
                  by_cases hm8 : m < 8
                  · have hn : 8 * (7 - k) + m < 64 := by omega
                    have hcl := (hrl.of_block (w' := wr.drew) rfl).cell (i := m) hm8
                    have hOc := (hr.of_block (w' := wr.drew) rfl).cell (i := 8 * (7 - k) + m) hn
                    have hOf := (hr.of_block (w' := wr.drew) rfl).frozen (8 * (7 - k) + m)
                    have hR := Lib.hid (((hr.of_block (w' := wr.drew) rfl).set (8 * (7 - k) + m) (.int .i64 (rRow (partAt s k) m))).congr (g := fun j => .int .i64 (inV s k (m + 1) j)) fun j hj => by rw [← inV_step hk8 hm8 j hj]; split <;> rfl)
                    have hRl := Lib.hid ((hrl.of_block (w' := wr.drew) rfl).setOther (a := ⟨gb, 8 * (7 - k) + m, none⟩) (by simpa using hne) (.int .i64 (rRow (partAt s k) m)))
                    have hBB := Lib.hid (hb.drew.setCell (p := ⟨gb, 8 * (7 - k) + m, none⟩) (Nat.le_refl _) (.int .i64 (rRow (partAt s k) m)))
                    have hcall := fun v => at_any (m : Int) (7 - (k : Int)) (by omega) (by omega) (by omega) (by omega) v
                    rw [show atOf (m : Int) (7 - (k : Int)) = ((8 * (7 - k) + m : Nat) : Int) by unfold atOf; rw [if_pos (by omega)]; omega] at hcall
                    have e7 : IntKind.i64.wrap (7 - (k : Int)) = 7 - (k : Int) := IntWalk.i64_in _ (by omega)
                    have hall' := Lib.hid hall
                    clear hr hrl hb hall hf
                    generalize 8 * (7 - k) + m = n at *
                    generalize rRow (partAt s k) m = x at *
                    replace hcall := Lib.hid hcall
                    have hi1 : (0 : Int) ≤ (n : Int) ∧ (n : Int) < 64 := by omega
                    have hwd : ({ heap := wr.heap, tape := wr.tape, drawn := wr.drawn + 1, os := wr.os, output := wr.output } : World) = wr.drew := rfl
                    go_wp2
                    refine wp_region_still_tail 9 (by kernel_rfl) (by kernel_rfl) ?_
                    simp only [List.take_succ_cons, List.take_zero, List.drop_succ_cons, List.drop_zero]
                    rw [hwd]
                    clear hwd
                    generalize wr.drew = wd at *
                    repeat still_step
                    still_call (hcall.out wd |>.mono fun e w' ⟨h1, h2⟩ => ⟨h1, h2.symm⟩)
                    repeat still_step
                    refine wpStill_nil ?_
                    go_wp2
                    exact ⟨⟨m + 1, by omega, by go_num, hR.out, hRl.out, hBB.out⟩, by simp [intOf]; omega⟩
                  · obtain rfl : m = 8 := by omega
                    have hrE := Lib.hid (hr.congr (g := fun j => .int .i64 (fenV s (k + 1) j)) fun j hj => by rw [inV_end])
                    have hallE := Lib.hid (show ∀ j, j < k + 1 → rOk (partAt s j) = true from fun j hj => by rcases Nat.lt_succ_iff_lt_or_eq.1 hj with h | rfl; exact hall j h; exact hok.out)
                    clear hr hall hf
                    go_wp2
                    go_roundw
                    case rel => exact ⟨k + 1, true, _, by omega, by go_num, rfl, hrE.out, .inl ⟨rfl, by rw [hL.out]; exact hl8.out, hallE.out, fun _ _ => rfl⟩, hb⟩
                    case measure => simp [intOf]; omega
              · replace hok : rOk (partAt s k) = false := by simpa using hok
                replace hok := Lib.hid hok
                obtain ⟨wo, rfl⟩ : ∃ wo : World, wo = wr := ⟨_, rfl⟩
                go_wp2_with (go_at_call 19; refine hrk.out.mono ?_; rintro e w5 hrs; obtain ⟨rfl, hb5⟩ := rankS_bad hrs hok.out)
                have hr5 := rowIs_below hr hb5 hr.lt
                have hBA := hb.trans (hb5.mono (by rw [← hgb.out]; exact hb.size))
                clear hrk hcell hr hb hb5
                go_loopw [12] (fun t wj => t = .int .i64 0 ∧ wj = w5) (fun t _ => 0)
                case atStart => exact ⟨rfl, rfl⟩
                case round =>
                  obtain ⟨rfl, rfl⟩ := hrel
                  go_wp2
                  go_roundw
                  case rel => exact ⟨k + 1, false, _, by omega, by go_num, rfl, hr5, .inr ⟨rfl, readOk_false_at hk8 hok.out⟩, hBA⟩
                  case measure => simp [intOf]; omega
            · obtain rfl : k = L := by omega
              have hro := readOk_true (by rw [hL.out]; exact hl8) (fun j hj => hall j (by omega))
              have hE : ∀ w, (binOp .eql 23 (.agg (rowArr 64 fun i => .int .i64 (readBd s i))) (.agg (rowArr 64 fun i => .int .i64 (f i)))).run Tryd.prog w = .ok (.bool true) w := fun w => by
                rw [run_eqInts, eqInts_true fun i hi => ?_]
                rw [hf i hi]; unfold fenV; rw [if_pos (by omega)]
              have hBi : Below w2.heap.size w2 wr := hb3.trans (hb.mono (by have := hb3.size; have := hgb.out; omega))
              have hlast := Lib.hid (implBoardRead_any s hs h128.out hend.out wr (hT2.out.below hBi) (hF2.out.below hBi))
              replace hro := Lib.hid hro
              have hBW := Lib.hid (hB2.out.trans (hBi.mono hB2.out.size))
              replace hl8 := Lib.hid hl8
              clear hall hf hb3 hBi hb hT2 hF2 hcells
              go_wp2_with (first
              | (go_at_call 17; refine hlast.out.mono ?_; rintro e w6 ⟨hor, hb6⟩; obtain ⟨rfl⟩ := hor.elim (fun h => h.2) (fun h => absurd (hro.out.symm.trans h.1) (by simp)); clear hor; unfold intRow; have hb' := rowIs_below hr hb6 hr.lt; obtain ⟨hZ6, hR6, hX6⟩ := last_facts w6 (readBd s); generalize hg6 : w6.heap.size = g6 at *)
              | (refine wpList_store_row rfl 23 _ _ rfl g6 _ rfl rfl _ _ (rowIs_block hZ6) (by rw [info64, rowArr_size]) (by rw [rowArr_size, rowArr_size]) (intRow_one _ _) ?_; change wpList _ _ _ _ _ ((w6.alloc (.cells zero64 23)).setRow g6 (rowArr 64 fun i => .int .i64 (readBd s i))); generalize ((w6.alloc (.cells zero64 23)).setRow g6 (rowArr 64 fun i => .int .i64 (readBd s i))) = w7 at *; have hb7 := rowIs_below hb' hX6 (by rw [← hg6]; exact hb'.lt); clear hZ6)
              | (refine wpList_unguard (by rfl) (wpList_load_row rfl 23 _ rfl g6 rfl _ _ (0, 0) _ (rowIs_block hR6) Tryd.underlying23 rfl (by rw [info64, rowArr_size]) ?_))
              | (refine wpList_unguard (by rfl) (wpList_load_row rfl 23 _ rfl gb rfl _ _ (0, 0) _ (rowIs_block hb7) Tryd.underlying23 rfl (by rw [info64, rowArr_size]) ?_)))
              go_ret
              exact ⟨rfl, hBW.out.trans ((hb6.trans (hX6.mono (by rw [← hg6]; exact hb6.size))).mono hBW.out.size)⟩
          · have hBi : Below w2.heap.size w2 wr := hb3.trans (hb.mono (by have := hb3.size; have := hgb.out; omega))
            have hlast := Lib.hid (implBoardRead_any s hs h128.out hend.out wr (hT2.out.below hBi) (hF2.out.below hBi))
            replace hno := Lib.hid hno
            have hBW := Lib.hid (hB2.out.trans (hBi.mono hB2.out.size))
            clear hb3 hBi hb hT2 hF2 hcells
            go_wp2_with (first
            | (go_at_call 17; refine hlast.out.mono ?_; rintro e w6 ⟨hor, hb6⟩; obtain ⟨v, rfl⟩ := hor.elim (fun h => absurd (h.1.symm.trans hno.out) (by simp)) (fun h => h.2); clear hor; unfold intRow; have hb' := rowIs_below hr hb6 hr.lt; obtain ⟨hZ6, hR6, hX6⟩ := last_facts w6 v; generalize hg6 : w6.heap.size = g6 at *)
            | (refine wpList_store_row rfl 23 _ _ rfl g6 _ rfl rfl _ _ (rowIs_block hZ6) (by rw [info64, rowArr_size]) (by rw [rowArr_size, rowArr_size]) (intRow_one _ _) ?_; change wpList _ _ _ _ _ ((w6.alloc (.cells zero64 23)).setRow g6 (rowArr 64 fun i => .int .i64 (v i))); generalize ((w6.alloc (.cells zero64 23)).setRow g6 (rowArr 64 fun i => .int .i64 (v i))) = w7 at *; have hb7 := rowIs_below hb' hX6 (by rw [← hg6]; exact hb'.lt); clear hZ6))
            all_goals
              go_ret
              exact ⟨rfl, hBW.out.trans ((hb6.trans (hX6.mono (by rw [← hg6]; exact hb6.size))).mono hBW.out.size)⟩
end Go.Proofs.YtnlicbhelnocpaaDoor.BdRead

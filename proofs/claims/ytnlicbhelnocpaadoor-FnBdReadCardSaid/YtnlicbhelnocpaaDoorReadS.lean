/- The reference's side of reading a board's text: the kind of a letter, a rank, the parts. -/
import Derived.Test.YtnlicbhelnocpaaDoorFen
import Derived.Test.YtnlicbhelnocpaaDoorRowsK
import Derived.Test.YtnlicbhelnocpaaDoorUnguard
namespace Go.Proofs.YtnlicbhelnocpaaDoor
open Go.ChangeShapes Go.WideShapes Go.ChangeAt Go.RowKit Go.Maps Go.PlainAid
set_option maxHeartbeats 1000000
set_option linter.unusedVariables false
set_option linter.unusedSimpArgs false

theorem fenKind_any (c : Int) (h0 : 0 ≤ c) (h1 : c < 256) (w : World) :
    Calls Tryd.prog 45 #[.int .u8 c] w fun e w' => e = .returned (.int .i64 (kindB c)) ∧ w' = w := by
  go_enter Tryd.func45, Tryd.ntmps45
  go_wp2
  go_loopw [3] (fun i wr => ∃ k : Nat, k ≤ 12 ∧ i = .int .i64 k ∧ wr = w ∧ (0 < k → c ≠ 75) ∧ (1 < k → c ≠ 81) ∧ (2 < k → c ≠ 82) ∧ (3 < k → c ≠ 66) ∧ (4 < k → c ≠ 78) ∧ (5 < k → c ≠ 80) ∧ (6 < k → c ≠ 107) ∧ (7 < k → c ≠ 113) ∧ (8 < k → c ≠ 114) ∧ (9 < k → c ≠ 98) ∧ (10 < k → c ≠ 110) ∧ (11 < k → c ≠ 112)) (fun i _ => 12 - (intOf i).toNat)
  case atStart => exact ⟨0, by omega, rfl, rfl, by omega, by omega, by omega, by omega, by omega, by omega, by omega, by omega, by omega, by omega, by omega, by omega⟩
  case round =>
    obtain ⟨k, hk, rfl, rfl, n0, n1, n2, n3, n4, n5, n6, n7, n8, n9, n10, n11⟩ := hrel
    have hn := Lib.hid (And.intro n0 (And.intro n1 (And.intro n2 (And.intro n3 (And.intro n4 (And.intro n5 (And.intro n6 (And.intro n7 (And.intro n8 (And.intro n9 (And.intro n10 n11)))))))))))
    clear n0 n1 n2 n3 n4 n5 n6 n7 n8 n9 n10 n11
    have hk' : k = 0 ∨ k = 1 ∨ k = 2 ∨ k = 3 ∨ k = 4 ∨ k = 5 ∨ k = 6 ∨ k = 7 ∨ k = 8 ∨ k = 9 ∨ k = 10 ∨ k = 11 ∨ k = 12 := by omega
    clear hk
    rcases hk' with rfl | hk'
    · have hn := hn
      by_cases hc : 75 = c
      · have hce : ((((⟨#[75, 81, 82, 66, 78, 80, 107, 113, 114, 98, 110, 112]⟩ : ByteArray)[0]'(by decide)).toNat : Int) == c) = true := by change ((75 : Int) == c) = true; simpa using hc
        go_wp2
        go_ret
        subst hc
        exact ⟨rfl, rfl⟩
      · have hce : ((((⟨#[75, 81, 82, 66, 78, 80, 107, 113, 114, 98, 110, 112]⟩ : ByteArray)[0]'(by decide)).toNat : Int) == c) = false := by change ((75 : Int) == c) = false; simpa using hc
        replace hc := Lib.hid hc
        go_wp2
        go_roundw
        case rel => have := hn.out; have := hc.out; exact ⟨1, by omega, rfl, trivial, by omega, by omega, by omega, by omega, by omega, by omega, by omega, by omega, by omega, by omega, by omega, by omega⟩
        case measure => simp [intOf]
    rcases hk' with rfl | hk'
    · have hn := hn
      by_cases hc : 81 = c
      · have hce : ((((⟨#[75, 81, 82, 66, 78, 80, 107, 113, 114, 98, 110, 112]⟩ : ByteArray)[1]'(by decide)).toNat : Int) == c) = true := by change ((81 : Int) == c) = true; simpa using hc
        go_wp2
        go_ret
        subst hc
        exact ⟨rfl, rfl⟩
      · have hce : ((((⟨#[75, 81, 82, 66, 78, 80, 107, 113, 114, 98, 110, 112]⟩ : ByteArray)[1]'(by decide)).toNat : Int) == c) = false := by change ((81 : Int) == c) = false; simpa using hc
        replace hc := Lib.hid hc
        go_wp2
        go_roundw
        case rel => have := hn.out; have := hc.out; exact ⟨2, by omega, rfl, trivial, by omega, by omega, by omega, by omega, by omega, by omega, by omega, by omega, by omega, by omega, by omega, by omega⟩
        case measure => simp [intOf]
    rcases hk' with rfl | hk'
    · have hn := hn
      by_cases hc : 82 = c
      · have hce : ((((⟨#[75, 81, 82, 66, 78, 80, 107, 113, 114, 98, 110, 112]⟩ : ByteArray)[2]'(by decide)).toNat : Int) == c) = true := by change ((82 : Int) == c) = true; simpa using hc
        go_wp2
        go_ret
        subst hc
        exact ⟨rfl, rfl⟩
      · have hce : ((((⟨#[75, 81, 82, 66, 78, 80, 107, 113, 114, 98, 110, 112]⟩ : ByteArray)[2]'(by decide)).toNat : Int) == c) = false := by change ((82 : Int) == c) = false; simpa using hc
        replace hc := Lib.hid hc
        go_wp2
        go_roundw
        case rel => have := hn.out; have := hc.out; exact ⟨3, by omega, rfl, trivial, by omega, by omega, by omega, by omega, by omega, by omega, by omega, by omega, by omega, by omega, by omega, by omega⟩
        case measure => simp [intOf]
    rcases hk' with rfl | hk'
    · have hn := hn
      by_cases hc : 66 = c
      · have hce : ((((⟨#[75, 81, 82, 66, 78, 80, 107, 113, 114, 98, 110, 112]⟩ : ByteArray)[3]'(by decide)).toNat : Int) == c) = true := by change ((66 : Int) == c) = true; simpa using hc
        go_wp2
        go_ret
        subst hc
        exact ⟨rfl, rfl⟩
      · have hce : ((((⟨#[75, 81, 82, 66, 78, 80, 107, 113, 114, 98, 110, 112]⟩ : ByteArray)[3]'(by decide)).toNat : Int) == c) = false := by change ((66 : Int) == c) = false; simpa using hc
        replace hc := Lib.hid hc
        go_wp2
        go_roundw
        case rel => have := hn.out; have := hc.out; exact ⟨4, by omega, rfl, trivial, by omega, by omega, by omega, by omega, by omega, by omega, by omega, by omega, by omega, by omega, by omega, by omega⟩
        case measure => simp [intOf]
    rcases hk' with rfl | hk'
    · have hn := hn
      by_cases hc : 78 = c
      · have hce : ((((⟨#[75, 81, 82, 66, 78, 80, 107, 113, 114, 98, 110, 112]⟩ : ByteArray)[4]'(by decide)).toNat : Int) == c) = true := by change ((78 : Int) == c) = true; simpa using hc
        go_wp2
        go_ret
        subst hc
        exact ⟨rfl, rfl⟩
      · have hce : ((((⟨#[75, 81, 82, 66, 78, 80, 107, 113, 114, 98, 110, 112]⟩ : ByteArray)[4]'(by decide)).toNat : Int) == c) = false := by change ((78 : Int) == c) = false; simpa using hc
        replace hc := Lib.hid hc
        go_wp2
        go_roundw
        case rel => have := hn.out; have := hc.out; exact ⟨5, by omega, rfl, trivial, by omega, by omega, by omega, by omega, by omega, by omega, by omega, by omega, by omega, by omega, by omega, by omega⟩
        case measure => simp [intOf]
    rcases hk' with rfl | hk'
    · have hn := hn
      by_cases hc : 80 = c
      · have hce : ((((⟨#[75, 81, 82, 66, 78, 80, 107, 113, 114, 98, 110, 112]⟩ : ByteArray)[5]'(by decide)).toNat : Int) == c) = true := by change ((80 : Int) == c) = true; simpa using hc
        go_wp2
        go_ret
        subst hc
        exact ⟨rfl, rfl⟩
      · have hce : ((((⟨#[75, 81, 82, 66, 78, 80, 107, 113, 114, 98, 110, 112]⟩ : ByteArray)[5]'(by decide)).toNat : Int) == c) = false := by change ((80 : Int) == c) = false; simpa using hc
        replace hc := Lib.hid hc
        go_wp2
        go_roundw
        case rel => have := hn.out; have := hc.out; exact ⟨6, by omega, rfl, trivial, by omega, by omega, by omega, by omega, by omega, by omega, by omega, by omega, by omega, by omega, by omega, by omega⟩
        case measure => simp [intOf]
    rcases hk' with rfl | hk'
    · have hn := hn
      by_cases hc : 107 = c
      · have hce : ((((⟨#[75, 81, 82, 66, 78, 80, 107, 113, 114, 98, 110, 112]⟩ : ByteArray)[6]'(by decide)).toNat : Int) == c) = true := by change ((107 : Int) == c) = true; simpa using hc
        go_wp2
        go_ret
        subst hc
        exact ⟨rfl, rfl⟩
      · have hce : ((((⟨#[75, 81, 82, 66, 78, 80, 107, 113, 114, 98, 110, 112]⟩ : ByteArray)[6]'(by decide)).toNat : Int) == c) = false := by change ((107 : Int) == c) = false; simpa using hc
        replace hc := Lib.hid hc
        go_wp2
        go_roundw
        case rel => have := hn.out; have := hc.out; exact ⟨7, by omega, rfl, trivial, by omega, by omega, by omega, by omega, by omega, by omega, by omega, by omega, by omega, by omega, by omega, by omega⟩
        case measure => simp [intOf]
    rcases hk' with rfl | hk'
    · have hn := hn
      by_cases hc : 113 = c
      · have hce : ((((⟨#[75, 81, 82, 66, 78, 80, 107, 113, 114, 98, 110, 112]⟩ : ByteArray)[7]'(by decide)).toNat : Int) == c) = true := by change ((113 : Int) == c) = true; simpa using hc
        go_wp2
        go_ret
        subst hc
        exact ⟨rfl, rfl⟩
      · have hce : ((((⟨#[75, 81, 82, 66, 78, 80, 107, 113, 114, 98, 110, 112]⟩ : ByteArray)[7]'(by decide)).toNat : Int) == c) = false := by change ((113 : Int) == c) = false; simpa using hc
        replace hc := Lib.hid hc
        go_wp2
        go_roundw
        case rel => have := hn.out; have := hc.out; exact ⟨8, by omega, rfl, trivial, by omega, by omega, by omega, by omega, by omega, by omega, by omega, by omega, by omega, by omega, by omega, by omega⟩
        case measure => simp [intOf]
    rcases hk' with rfl | hk'
    · have hn := hn
      by_cases hc : 114 = c
      · have hce : ((((⟨#[75, 81, 82, 66, 78, 80, 107, 113, 114, 98, 110, 112]⟩ : ByteArray)[8]'(by decide)).toNat : Int) == c) = true := by change ((114 : Int) == c) = true; simpa using hc
        go_wp2
        go_ret
        subst hc
        exact ⟨rfl, rfl⟩
      · have hce : ((((⟨#[75, 81, 82, 66, 78, 80, 107, 113, 114, 98, 110, 112]⟩ : ByteArray)[8]'(by decide)).toNat : Int) == c) = false := by change ((114 : Int) == c) = false; simpa using hc
        replace hc := Lib.hid hc
        go_wp2
        go_roundw
        case rel => have := hn.out; have := hc.out; exact ⟨9, by omega, rfl, trivial, by omega, by omega, by omega, by omega, by omega, by omega, by omega, by omega, by omega, by omega, by omega, by omega⟩
        case measure => simp [intOf]
    rcases hk' with rfl | hk'
    · have hn := hn
      by_cases hc : 98 = c
      · have hce : ((((⟨#[75, 81, 82, 66, 78, 80, 107, 113, 114, 98, 110, 112]⟩ : ByteArray)[9]'(by decide)).toNat : Int) == c) = true := by change ((98 : Int) == c) = true; simpa using hc
        go_wp2
        go_ret
        subst hc
        exact ⟨rfl, rfl⟩
      · have hce : ((((⟨#[75, 81, 82, 66, 78, 80, 107, 113, 114, 98, 110, 112]⟩ : ByteArray)[9]'(by decide)).toNat : Int) == c) = false := by change ((98 : Int) == c) = false; simpa using hc
        replace hc := Lib.hid hc
        go_wp2
        go_roundw
        case rel => have := hn.out; have := hc.out; exact ⟨10, by omega, rfl, trivial, by omega, by omega, by omega, by omega, by omega, by omega, by omega, by omega, by omega, by omega, by omega, by omega⟩
        case measure => simp [intOf]
    rcases hk' with rfl | hk'
    · have hn := hn
      by_cases hc : 110 = c
      · have hce : ((((⟨#[75, 81, 82, 66, 78, 80, 107, 113, 114, 98, 110, 112]⟩ : ByteArray)[10]'(by decide)).toNat : Int) == c) = true := by change ((110 : Int) == c) = true; simpa using hc
        go_wp2
        go_ret
        subst hc
        exact ⟨rfl, rfl⟩
      · have hce : ((((⟨#[75, 81, 82, 66, 78, 80, 107, 113, 114, 98, 110, 112]⟩ : ByteArray)[10]'(by decide)).toNat : Int) == c) = false := by change ((110 : Int) == c) = false; simpa using hc
        replace hc := Lib.hid hc
        go_wp2
        go_roundw
        case rel => have := hn.out; have := hc.out; exact ⟨11, by omega, rfl, trivial, by omega, by omega, by omega, by omega, by omega, by omega, by omega, by omega, by omega, by omega, by omega, by omega⟩
        case measure => simp [intOf]
    rcases hk' with rfl | hk'
    · have hn := hn
      by_cases hc : 112 = c
      · have hce : ((((⟨#[75, 81, 82, 66, 78, 80, 107, 113, 114, 98, 110, 112]⟩ : ByteArray)[11]'(by decide)).toNat : Int) == c) = true := by change ((112 : Int) == c) = true; simpa using hc
        go_wp2
        go_ret
        subst hc
        exact ⟨rfl, rfl⟩
      · have hce : ((((⟨#[75, 81, 82, 66, 78, 80, 107, 113, 114, 98, 110, 112]⟩ : ByteArray)[11]'(by decide)).toNat : Int) == c) = false := by change ((112 : Int) == c) = false; simpa using hc
        replace hc := Lib.hid hc
        go_wp2
        go_roundw
        case rel => have := hn.out; have := hc.out; exact ⟨12, by omega, rfl, trivial, by omega, by omega, by omega, by omega, by omega, by omega, by omega, by omega, by omega, by omega, by omega, by omega⟩
        case measure => simp [intOf]
    subst hk'
    have hz := Lib.hid (show kindB c = 0 by have := hn.out; unfold kindB; repeat (first | rw [if_neg (by omega)] | rfl))
    go_wp2
    go_ret
    exact ⟨by rw [hz.out]; rfl, rfl⟩

theorem mk8ints (w : World) : (Instr.makeSlice 42 (.int .i64 8) (.int .i64 8)).run Tryd.prog w = .ok (.slice (some ⟨w.heap.size, 0, none⟩) 8 8) (w.alloc (.cells (rowArr 8 fun _ => .int .i64 0) 3)) := by kernel_rfl
theorem zero8 : (#[.int .i64 0, .int .i64 0, .int .i64 0, .int .i64 0, .int .i64 0, .int .i64 0, .int .i64 0, .int .i64 0] : Array Value) = rowArr 8 fun _ => .int .i64 0 := rfl
def RankS (T : ByteArray) (w : World) (e : Ending) (w' : World) : Prop :=
  (rOk T = true ∧ (∃ g, e = .returned (.tuple #[.slice (some ⟨g, 0, none⟩) 8 8, .bool true]) ∧ w.heap.size ≤ g ∧ w'.rowIs g 3 8 (fun j => .int .i64 (rRow T j))) ∧ Below w.heap.size w w') ∨ (rOk T = false ∧ e = .returned (.tuple #[.slice none 0 0, .bool false]) ∧ Below w.heap.size w w')
set_option maxRecDepth 100000 in
theorem specRank_any (T : ByteArray) (hT : T.size ≤ 1000) (h128 : ∀ i, i < T.size → bt T i < 128) (w : World) :
    Calls Tryd.prog 19 #[.string T] w fun e w' => RankS T w e w' := by
  have hget := get_bt T
  have hsz : T.size ≤ 9223372036854775807 := by omega
  replace h128 := Lib.hid h128
  have hnn := fun k => bt_nonneg T k
  replace hnn := Lib.hid hnn
  have hmk := mk8ints
  have hr0 := rowIs_new w 3 8 (fun _ => .int .i64 0)
  have hb0 : Below w.heap.size w (w.alloc (.cells (rowArr 8 fun _ => .int .i64 0) 3)) := (Below.refl _ _).alloc (Nat.le_refl _) _
  go_enter Tryd.func19, Tryd.ntmps19
  go_wp2
  go_loopw [5, 6, 7, 8] (fun f i _ _ wr => ∃ k : Nat, k ≤ T.size ∧ i = .int .i64 k ∧ f = .int .i64 (numB (bt T) k : Nat) ∧ okB (bt T) k = true ∧ wr.rowIs w.heap.size 3 8 (fun j => .int .i64 (rowB (bt T) k j)) ∧ Below w.heap.size w wr) (fun _ i _ _ _ => T.size - (intOf i).toNat)
  case atStart => exact ⟨0, by omega, rfl, rfl, rfl, hr0, hb0⟩
  case round =>
    clear hr0 hb0
    obtain ⟨k, hk, rfl, rfl, hok, hr, hb⟩ := hrel
    replace hok := Lib.hid hok
    by_cases hlt : k < T.size
    · have h0 := hnn.out k
      have h1 := h128.out k hlt
      have hs := numB_succ (bt T) k
      have hle := numB_le (bt T) k
      have hoks : okB (bt T) (k + 1) = (okB (bt T) k && (decide (49 ≤ bt T k ∧ bt T k ≤ 56) || kindB (bt T k) != 0)) := rfl
      have hrow : rowB (bt T) (k + 1) = fun j => if ¬ (49 ≤ bt T k ∧ bt T k ≤ 56) ∧ j = numB (bt T) k then kindB (bt T k) else rowB (bt T) k j := rfl
      have hmono := Lib.hid fun h => okB_mono (b := bt T) (k := k + 1) h T.size (by omega)
      have hmon2 := numB_mono (bt T) (k := k + 1) T.size (by omega)
      have hbig : 8 < numB (bt T) (k + 1) → rOk T = false := fun h => by
        unfold rOk
        rw [show (numB (bt T) T.size == 8) = false by simp; omega, Bool.and_false]
      have hgk := hget k hlt
      clear hget hmon2
      generalize bt T k = c at *
      have hkr := kindB_range c
      rw [hok.out, Bool.true_and] at hoks
      by_cases hd : 49 ≤ c ∧ c ≤ 56
      · rw [if_pos hd] at hs
        have e1 : IntKind.u8.wrap (c - 48) = c - 48 := IntWalk.u8_in _ (by omega)
        have e2 : IntKind.i64.wrap (c - 48) = c - 48 := IntWalk.i64_in _ (by omega)
        have d1 := hd.1
        have d2 := hd.2
        have hrow' : ∀ j, rowB (bt T) (k + 1) j = rowB (bt T) k j := fun j => by rw [hrow]; simp [hd]
        have hok' : okB (bt T) (k + 1) = true := by rw [hoks]; simp [hd]
        have hc : ((numB (bt T) (k + 1) : Nat) : Int) = (numB (bt T) k : Nat) + (c - 48) := by rw [hs]; omega
        have hr' := Lib.hid (hr.congr (g := fun j => .int .i64 (rowB (bt T) (k + 1) j)) fun j _ => by rw [hrow'])
        replace hok' := Lib.hid hok'
        replace hc := Lib.hid hc
        replace hs := Lib.hid hs
        replace hbig := Lib.hid hbig
        clear hd hrow hoks hr hrow'
        go_wp2
        go_roundw
        case rel => exact ⟨k + 1, by omega, by go_num, by rw [hc.out], hok'.out, hr'.out, hb⟩
        case measure => simp [intOf]; omega
      · rw [if_neg hd] at hs
        have hdd : c < 49 ∨ 56 < c := by omega
        by_cases hz : kindB c = 0
        · have hok' : okB (bt T) (k + 1) = false := by rw [hoks]; simp [hz]; omega
          have hrF : rOk T = false := by unfold rOk; rw [hmono.out hok']; rfl
          have hz0 : (kindB c == 0) = true := by simp [hz]
          replace hrF := Lib.hid hrF
          clear hd hrow hoks hok' hz hs hbig
          rcases hdd with hdd | hdd
          all_goals
            go_wp2_with (go_at_call 45; refine (fenKind_any c (by omega) (by omega) _).mono ?_; rintro e w' ⟨rfl, rfl⟩)
            go_ret2
            exact .inr ⟨hrF.out, rfl, hb⟩
        · have hok' : okB (bt T) (k + 1) = true := by rw [hoks]; simp [hz]
          have hrow' : ∀ j, rowB (bt T) (k + 1) j = if j = numB (bt T) k then kindB c else rowB (bt T) k j := fun j => by rw [hrow]; simp [hd]
          have hz0 : (kindB c == 0) = false := by simp [hz]
          have hc : ((numB (bt T) (k + 1) : Nat) : Int) = (numB (bt T) k : Nat) + 1 := by rw [hs]; omega
          by_cases h8 : numB (bt T) k < 8
          · have hcell := hr.cell (i := numB (bt T) k) h8
            have hfz := hr.frozen (numB (bt T) k)
            have hr' := Lib.hid ((hr.set (numB (bt T) k) (.int .i64 (kindB c))).congr (g := fun j => .int .i64 (rowB (bt T) (k + 1) j)) fun j _ => by rw [hrow']; split <;> rfl)
            have hb' := Lib.hid (hb.setCell (p := ⟨w.heap.size, numB (bt T) k, none⟩) (Nat.le_refl _) (.int .i64 (kindB c)))
            replace hok' := Lib.hid hok'
            replace hc := Lib.hid hc
            replace hbig := Lib.hid hbig
            clear hd hrow hoks hz hs hrow' hr hb
            rcases hdd with hdd | hdd
            all_goals
              go_wp2_with (go_at_call 45; refine (fenKind_any c (by omega) (by omega) _).mono ?_; rintro e w' ⟨rfl, rfl⟩)
              go_roundw
              case rel => exact ⟨k + 1, by omega, by go_num, by rw [hc.out], hok'.out, hr'.out, hb'.out⟩
              case measure => simp [intOf]; omega
          · have hbig' := Lib.hid (hbig (by omega))
            replace hc := Lib.hid hc
            clear hd hrow hoks hz hs hrow' hok' hbig hr
            rcases hdd with hdd | hdd
            all_goals
              go_wp2_with (go_at_call 45; refine (fenKind_any c (by omega) (by omega) _).mono ?_; rintro e w' ⟨rfl, rfl⟩)
              go_ret2
              exact .inr ⟨hbig'.out, rfl, hb⟩
    · obtain rfl : k = T.size := by omega
      have hle := numB_le (bt T) T.size
      have hR : rOk T = (okB (bt T) T.size && numB (bt T) T.size == 8) := rfl
      rw [hok.out, Bool.true_and] at hR
      have hrr : wr.rowIs w.heap.size 3 8 (fun j => .int .i64 (rRow T j)) := hr
      clear hr
      generalize numB (bt T) T.size = m at *
      by_cases h8 : m = 8
      · have hne : ((m : Int) != 8) = false := by simp; omega
        have hR' := Lib.hid (show rOk T = true by rw [hR, h8]; rfl)
        replace h8 := Lib.hid h8
        clear hR
        go_wp2
        go_ret2
        exact .inl ⟨hR'.out, ⟨_, rfl, Nat.le_refl _, hrr⟩, hb⟩
      · have hne : ((m : Int) != 8) = true := by simp; omega
        have hR' := Lib.hid (show rOk T = false by rw [hR]; simpa using h8)
        clear hR h8
        go_wp2
        go_ret2
        exact .inr ⟨hR'.out, rfl, hb⟩
theorem infoStr : (Tryd.prog.info? 9).map (fun i => (i.zero, i.size, i.bytes)) = some (some (.string ByteArray.empty), 1, 16) := by kernel_rfl
def strs (l : List ByteArray) : List Value := l.map Value.string
theorem one_str (x : ByteArray) : ∀ u ∈ [Value.string x], u.oneCell' = true := by simp [Value.oneCell']
theorem app_strs {w : World} {B : Nat} {v : Value} {l : List ByteArray} {x : ByteArray} (h : w.ownsRow B 9 1 v (l.length + 1) (strs l ++ [.string x])) : w.ownsRow B 9 1 v (l ++ [x]).length (strs (l ++ [x])) := by
  simpa [strs] using h
def cutsTo (s : ByteArray) (k : Nat) : List ByteArray := if k ≤ s.size then cuts s k else partsB s
def opnTo (s : ByteArray) (k : Nat) : Nat := if k ≤ s.size then opn s k else s.size + 1
def PartsS (s : ByteArray) (w : World) (e : Ending) (w' : World) : Prop :=
  (∃ v, e = .returned v ∧ w'.ownsRow w.heap.size 9 1 v (partsB s).length (strs (partsB s))) ∧ Below w.heap.size w w'
theorem bdParts_any (s : ByteArray) (hsz : s.size ≤ 1000) (w : World) :
    Calls Tryd.prog 18 #[.string s] w fun e w' => PartsS s w e w' := by
  have hget := get_bt s
  have hsz' : s.size ≤ 9223372036854775807 := by omega
  go_enter Tryd.func18, Tryd.ntmps18
  go_wp2
  go_loopw [3, 4, 5] (fun out fr i wr => ∃ k : Nat, k ≤ s.size + 1 ∧ i = .int .i64 k ∧ fr = .int .i64 (opnTo s k : Nat) ∧ wr.ownsRow w.heap.size 9 1 out (cutsTo s k).length (strs (cutsTo s k)) ∧ (cutsTo s k).length ≤ k ∧ Below w.heap.size w wr) (fun _ _ i _ => s.size + 1 - (intOf i).toNat)
  case atStart => exact ⟨0, by omega, rfl, by simp [opnTo, opn], by simpa [cutsTo, cuts, strs] using World.ownsRow_nil _ _ _ _, by simp [cutsTo, cuts], Below.refl _ _⟩
  case round =>
    obtain ⟨k, hk, rfl, rfl, hown, hlen, hb⟩ := hrel
    by_cases hle : k ≤ s.size
    · have eo : opnTo s k = opn s k := if_pos hle
      have ec : cutsTo s k = cuts s k := if_pos hle
      rw [ec] at hown hlen
      rw [eo]
      have hol := opn_le s k
      clear eo ec
      have h0 := bt_nonneg s k
      by_cases hlt : k < s.size
      · have hke : (((k : Nat) : Int) == (s.size : Int)) = false := by simp; omega
        have hgk := hget k hlt
        have hc1 : cutsTo s (k + 1) = if bt s k = 47 then cuts s k ++ [s.extract (opn s k) k] else cuts s k := if_pos (show k + 1 ≤ s.size from hlt)
        have ho1 : opnTo s (k + 1) = if bt s k = 47 then k + 1 else opn s k := if_pos (show k + 1 ≤ s.size from hlt)
        clear hget
        generalize bt s k = c at *
        by_cases hc : c = 47
        · rw [if_pos hc] at hc1 ho1
          have hce : (c == 47) = true := by simp [hc]
          replace hc1 := Lib.hid hc1
          replace ho1 := Lib.hid ho1
          replace hc := Lib.hid hc
          generalize opn s k = st at *
          go_wp2_with (at_builtin; refine wpList_app rfl _ _ 40 rfl w.heap.size 9 (.string ByteArray.empty) 1 16 Tryd.underlying40 infoStr rfl (by decide) _ _ _ rfl hown hb (Nat.le_refl _) [.string (s.extract st k)] (one_str _) rfl _ rfl rfl (by omega) (by decide) ?_; intro v' w2 hown2 hbo3 hnil; have hown3 := app_strs hown2; clear hown2 hnil hown hb)
          go_roundw
          case rel => exact ⟨k + 1, by omega, by go_num, by rw [ho1.out]; go_num, by rw [hc1.out]; exact hown3, by rw [hc1.out]; simp; omega, hbo3⟩
          case measure => simp [intOf]; omega
        · rw [if_neg hc] at hc1 ho1
          have hce : (c == 47) = false := by simp [hc]
          replace hc1 := Lib.hid hc1
          replace ho1 := Lib.hid ho1
          replace hc := Lib.hid hc
          generalize opn s k = st at *
          go_wp2
          go_roundw
          case rel => exact ⟨k + 1, by omega, by go_num, by rw [ho1.out], by rw [hc1.out]; exact hown, by rw [hc1.out]; omega, hb⟩
          case measure => simp [intOf]; omega
      · obtain rfl : k = s.size := by omega
        have hc1 : cutsTo s (s.size + 1) = cuts s s.size ++ [s.extract (opn s s.size) s.size] := if_neg (by omega)
        have ho1 : opnTo s (s.size + 1) = s.size + 1 := if_neg (by omega)
        replace hc1 := Lib.hid hc1
        replace ho1 := Lib.hid ho1
        generalize opn s s.size = st at *
        go_wp2_with (at_builtin; refine wpList_app rfl _ _ 40 rfl w.heap.size 9 (.string ByteArray.empty) 1 16 Tryd.underlying40 infoStr rfl (by decide) _ _ _ rfl hown hb (Nat.le_refl _) [.string (s.extract st s.size)] (one_str _) rfl _ rfl rfl (by omega) (by decide) ?_; intro v' w2 hown2 hbo3 hnil; have hown3 := app_strs hown2; clear hown2 hnil hown hb)
        go_roundw
        case rel => exact ⟨s.size + 1, by omega, by go_num, by rw [ho1.out]; go_num, by rw [hc1.out]; exact hown3, by rw [hc1.out]; simp; omega, hbo3⟩
        case measure => simp [intOf]
    · obtain rfl : k = s.size + 1 := by omega
      have ec : cutsTo s (s.size + 1) = partsB s := if_neg (by omega)
      rw [ec] at hown
      go_wp2
      go_ret
      exact ⟨⟨_, rfl, hown⟩, hb⟩
end Go.Proofs.YtnlicbhelnocpaaDoor

/- The walk of the law FnNmLetters. -/
import Derived.Test.YtkbbncobgmepbaaDoorLetters
namespace Go.Proofs.YtkbbncobgmepbaaDoor.Letters
open Go.ChangeShapes Go.WideShapes Go.ChangeAt Go.RowKit Go.PlainAid
set_option maxHeartbeats 1000000
set_option linter.unusedVariables false
set_option linter.unusedSimpArgs false
attribute [local go_sem] tx_list tx_size

theorem unguard {P : Program} {ops : Array Oper} {rest : List Oper} {o : Oper} {a : Act} {w : World} {Q : Exit → Act → World → Prop} (hw : Region.wanted o (yielded ops a.tmps) = true)
    (h : wpList P ops Q ({ o with guard := none } :: rest) a w) : wpList P ops Q (o :: rest) a w := by
  cases o
  unfold wpList at h ⊢
  rw [if_pos hw]
  rw [if_pos (by simp [Region.wanted])] at h
  exact h
/-- The kind of a text and of a byte, as the law counts them, behind k letters. -/
def lawK (L : List UInt8) : Nat → Int
  | 0 => 0
  | k + 1 => if L = [small k] ∨ L = [great k] then (k : Int) + 1 else lawK L k
def lawO (c : Int) : Nat → Int
  | 0 => 0
  | k + 1 => if c = ((small k).toNat : Int) then (k : Int) + 1 else lawO c k
theorem lawO_eq (c : Int) : lawO c 6 = kindT c := by
  have e : ∀ x : Nat, lawO c 6 = (if c = 112 then 6 else if c = 110 then 5 else if c = 98 then 4 else if c = 114 then 3 else if c = 113 then 2 else if c = 107 then 1 else 0) := fun _ => rfl
  rw [e 0]
  unfold kindT
  repeat (split <;> try omega)
theorem lawK_eq (L : List UInt8) : lawK L 6 = kindTxt L := by
  match L with
  | [] => rfl
  | [b] =>
    have h := (low_facts b).2
    show lawK [b] 6 = kindL b
    have e : lawK [b] 6 = (if [b] = [112] ∨ [b] = [(80 : UInt8)] then 6 else if [b] = [110] ∨ [b] = [(78 : UInt8)] then 5 else if [b] = [98] ∨ [b] = [(66 : UInt8)] then 4 else if [b] = [114] ∨ [b] = [(82 : UInt8)] then 3 else if [b] = [113] ∨ [b] = [(81 : UInt8)] then 2 else if [b] = [107] ∨ [b] = [(75 : UInt8)] then 1 else 0) := rfl
    rw [e, h]
    have hb : ∀ n : UInt8, ([b] = [n]) = (b.toNat = n.toNat) := fun n => by
      rw [List.cons.injEq, eq_self, and_true, ← UInt8.toNat_inj]
    simp only [hb]
    show (if b.toNat = 112 ∨ b.toNat = 80 then (6 : Int) else if b.toNat = 110 ∨ b.toNat = 78 then 5 else if b.toNat = 98 ∨ b.toNat = 66 then 4 else if b.toNat = 114 ∨ b.toNat = 82 then 3 else if b.toNat = 113 ∨ b.toNat = 81 then 2 else if b.toNat = 107 ∨ b.toNat = 75 then 1 else 0) = _
    repeat (split <;> try omega)
  | a :: b :: r => simp [lawK, kindTxt]
set_option maxRecDepth 100000 in
theorem walk_long (L : List UInt8) (hs : 2147483647 < L.length) (c : Int) (W : World) :
    Calls Tryd.prog 4 #[.string (tx L), .int .u8 c] W fun e w' => e = .returned (.bool true) ∧ Below W.heap.size W w' := by
  have hd : decide ((2147483647 : Int) < (L.length : Int)) = true := by simp; omega
  go_enter Tryd.func4, Tryd.ntmps4
  go_wp2
  go_ret
  exact ⟨rfl, Below.refl _ _⟩
set_option maxRecDepth 100000 in
theorem walk_main (L : List UInt8) (hs : L.length ≤ 2147483647) (c : Int) (W : World) (hT : ∀ w, Below W.heap.size W w → TabsL w) :
    Calls Tryd.prog 4 #[.string (tx L), .int .u8 c] W fun e w' => e = .returned (.bool true) ∧ Below W.heap.size W w' := by
  have hd : decide ((2147483647 : Int) < (L.length : Int)) = false := by simp; omega
  replace hT := Lib.hid hT
  go_enter Tryd.func4, Tryd.ntmps4
  go_wp2
  go_loopw [7, 8, 9, 10, 11] (fun a b i _ _ wr => ∃ k : Nat, k ≤ 6 ∧ i = .int .i64 k ∧ a = .int .i64 (lawK L k) ∧ b = .int .i64 (lawO c k) ∧ Below W.heap.size W wr) (fun _ _ i _ _ _ => 6 - (intOf i).toNat)
  case atStart => exact ⟨0, by omega, rfl, rfl, rfl, Below.refl _ _⟩
  case round =>
    obtain ⟨k, hk, rfl, rfl, rfl, hb⟩ := hrel
    have hk' : k = 0 ∨ k = 1 ∨ k = 2 ∨ k = 3 ∨ k = 4 ∨ k = 5 ∨ k = 6 := by omega
    clear hk
    replace hb := Lib.hid hb
    rcases hk' with rfl | hk'
    · have hK : lawK L 1 = if L = [107] ∨ L = [75] then 1 else lawK L 0 := rfl
      have hO : lawO c 1 = if c = 107 then 1 else lawO c 0 := rfl
      have hKt : (L == [107]) = true ∨ (L == [75]) = true → lawK L 1 = 1 := fun h => by rw [hK, if_pos (by simpa using h)]
      have hKf : (L == [107]) = false → (L == [75]) = false → lawK L 1 = lawK L 0 := fun h h' => by rw [hK, if_neg (by simp at h h'; simp [h, h'])]
      have hOt : (c == 107) = true → lawO c 1 = 1 := fun h => by rw [hO, if_pos (by simpa using h)]
      have hOf : (c == 107) = false → lawO c 1 = lawO c 0 := fun h => by rw [hO, if_neg (by simpa using h)]
      have hlet : ∀ w, Calls Tryd.prog 11 #[.int .i64 1] w fun e w' => e = .returned (.tuple #[.string (tx [107]), .bool true]) ∧ Below w.heap.size w w' := fun w => letter_any 0 (by omega) w
      have x1 : (⟨#[107, 113, 114, 98, 110, 112]⟩ : ByteArray).extract 0 1 = tx [107] := rfl
      have x2 : (⟨#[75, 81, 82, 66, 78, 80]⟩ : ByteArray).extract 0 1 = tx [75] := rfl
      have x3 : ∀ h : 0 < (⟨#[107, 113, 114, 98, 110, 112]⟩ : ByteArray).size, (((((⟨#[107, 113, 114, 98, 110, 112]⟩ : ByteArray)[0]'h).toNat : Nat)) : Int) = 107 := fun h => rfl
      replace hlet := Lib.hid hlet
      replace hKt := Lib.hid hKt
      replace hKf := Lib.hid hKf
      replace hOt := Lib.hid hOt
      replace hOf := Lib.hid hOf
      clear hK hO
      cases hp : (L == [107]) <;> cases hq : (L == [75]) <;> cases hr : (c == 107)
      all_goals
        go_wp2_with (go_at_call 11; refine (hlet.out _).mono ?_; rintro e w1 ⟨rfl, hb1⟩)
        go_roundw
        case rel => exact ⟨1, by omega, rfl, by first | exact congrArg (Value.int .i64) (hKt.out (.inl hp)).symm | exact congrArg (Value.int .i64) (hKt.out (.inr hq)).symm | exact congrArg (Value.int .i64) (hKf.out hp hq).symm, by first | exact congrArg (Value.int .i64) (hOt.out hr).symm | exact congrArg (Value.int .i64) (hOf.out hr).symm, hb.out.trans (hb1.mono hb.out.size)⟩
        case measure => simp [intOf]
    rcases hk' with rfl | hk'
    · have hK : lawK L 2 = if L = [113] ∨ L = [81] then 2 else lawK L 1 := rfl
      have hO : lawO c 2 = if c = 113 then 2 else lawO c 1 := rfl
      have hKt : (L == [113]) = true ∨ (L == [81]) = true → lawK L 2 = 2 := fun h => by rw [hK, if_pos (by simpa using h)]
      have hKf : (L == [113]) = false → (L == [81]) = false → lawK L 2 = lawK L 1 := fun h h' => by rw [hK, if_neg (by simp at h h'; simp [h, h'])]
      have hOt : (c == 113) = true → lawO c 2 = 2 := fun h => by rw [hO, if_pos (by simpa using h)]
      have hOf : (c == 113) = false → lawO c 2 = lawO c 1 := fun h => by rw [hO, if_neg (by simpa using h)]
      have hlet : ∀ w, Calls Tryd.prog 11 #[.int .i64 2] w fun e w' => e = .returned (.tuple #[.string (tx [113]), .bool true]) ∧ Below w.heap.size w w' := fun w => letter_any 1 (by omega) w
      have x1 : (⟨#[107, 113, 114, 98, 110, 112]⟩ : ByteArray).extract 1 2 = tx [113] := rfl
      have x2 : (⟨#[75, 81, 82, 66, 78, 80]⟩ : ByteArray).extract 1 2 = tx [81] := rfl
      have x3 : ∀ h : 1 < (⟨#[107, 113, 114, 98, 110, 112]⟩ : ByteArray).size, (((((⟨#[107, 113, 114, 98, 110, 112]⟩ : ByteArray)[1]'h).toNat : Nat)) : Int) = 113 := fun h => rfl
      replace hlet := Lib.hid hlet
      replace hKt := Lib.hid hKt
      replace hKf := Lib.hid hKf
      replace hOt := Lib.hid hOt
      replace hOf := Lib.hid hOf
      clear hK hO
      cases hp : (L == [113]) <;> cases hq : (L == [81]) <;> cases hr : (c == 113)
      all_goals
        go_wp2_with (go_at_call 11; refine (hlet.out _).mono ?_; rintro e w1 ⟨rfl, hb1⟩)
        go_roundw
        case rel => exact ⟨2, by omega, rfl, by first | exact congrArg (Value.int .i64) (hKt.out (.inl hp)).symm | exact congrArg (Value.int .i64) (hKt.out (.inr hq)).symm | exact congrArg (Value.int .i64) (hKf.out hp hq).symm, by first | exact congrArg (Value.int .i64) (hOt.out hr).symm | exact congrArg (Value.int .i64) (hOf.out hr).symm, hb.out.trans (hb1.mono hb.out.size)⟩
        case measure => simp [intOf]
    rcases hk' with rfl | hk'
    · have hK : lawK L 3 = if L = [114] ∨ L = [82] then 3 else lawK L 2 := rfl
      have hO : lawO c 3 = if c = 114 then 3 else lawO c 2 := rfl
      have hKt : (L == [114]) = true ∨ (L == [82]) = true → lawK L 3 = 3 := fun h => by rw [hK, if_pos (by simpa using h)]
      have hKf : (L == [114]) = false → (L == [82]) = false → lawK L 3 = lawK L 2 := fun h h' => by rw [hK, if_neg (by simp at h h'; simp [h, h'])]
      have hOt : (c == 114) = true → lawO c 3 = 3 := fun h => by rw [hO, if_pos (by simpa using h)]
      have hOf : (c == 114) = false → lawO c 3 = lawO c 2 := fun h => by rw [hO, if_neg (by simpa using h)]
      have hlet : ∀ w, Calls Tryd.prog 11 #[.int .i64 3] w fun e w' => e = .returned (.tuple #[.string (tx [114]), .bool true]) ∧ Below w.heap.size w w' := fun w => letter_any 2 (by omega) w
      have x1 : (⟨#[107, 113, 114, 98, 110, 112]⟩ : ByteArray).extract 2 3 = tx [114] := rfl
      have x2 : (⟨#[75, 81, 82, 66, 78, 80]⟩ : ByteArray).extract 2 3 = tx [82] := rfl
      have x3 : ∀ h : 2 < (⟨#[107, 113, 114, 98, 110, 112]⟩ : ByteArray).size, (((((⟨#[107, 113, 114, 98, 110, 112]⟩ : ByteArray)[2]'h).toNat : Nat)) : Int) = 114 := fun h => rfl
      replace hlet := Lib.hid hlet
      replace hKt := Lib.hid hKt
      replace hKf := Lib.hid hKf
      replace hOt := Lib.hid hOt
      replace hOf := Lib.hid hOf
      clear hK hO
      cases hp : (L == [114]) <;> cases hq : (L == [82]) <;> cases hr : (c == 114)
      all_goals
        go_wp2_with (go_at_call 11; refine (hlet.out _).mono ?_; rintro e w1 ⟨rfl, hb1⟩)
        go_roundw
        case rel => exact ⟨3, by omega, rfl, by first | exact congrArg (Value.int .i64) (hKt.out (.inl hp)).symm | exact congrArg (Value.int .i64) (hKt.out (.inr hq)).symm | exact congrArg (Value.int .i64) (hKf.out hp hq).symm, by first | exact congrArg (Value.int .i64) (hOt.out hr).symm | exact congrArg (Value.int .i64) (hOf.out hr).symm, hb.out.trans (hb1.mono hb.out.size)⟩
        case measure => simp [intOf]
    rcases hk' with rfl | hk'
    · have hK : lawK L 4 = if L = [98] ∨ L = [66] then 4 else lawK L 3 := rfl
      have hO : lawO c 4 = if c = 98 then 4 else lawO c 3 := rfl
      have hKt : (L == [98]) = true ∨ (L == [66]) = true → lawK L 4 = 4 := fun h => by rw [hK, if_pos (by simpa using h)]
      have hKf : (L == [98]) = false → (L == [66]) = false → lawK L 4 = lawK L 3 := fun h h' => by rw [hK, if_neg (by simp at h h'; simp [h, h'])]
      have hOt : (c == 98) = true → lawO c 4 = 4 := fun h => by rw [hO, if_pos (by simpa using h)]
      have hOf : (c == 98) = false → lawO c 4 = lawO c 3 := fun h => by rw [hO, if_neg (by simpa using h)]
      have hlet : ∀ w, Calls Tryd.prog 11 #[.int .i64 4] w fun e w' => e = .returned (.tuple #[.string (tx [98]), .bool true]) ∧ Below w.heap.size w w' := fun w => letter_any 3 (by omega) w
      have x1 : (⟨#[107, 113, 114, 98, 110, 112]⟩ : ByteArray).extract 3 4 = tx [98] := rfl
      have x2 : (⟨#[75, 81, 82, 66, 78, 80]⟩ : ByteArray).extract 3 4 = tx [66] := rfl
      have x3 : ∀ h : 3 < (⟨#[107, 113, 114, 98, 110, 112]⟩ : ByteArray).size, (((((⟨#[107, 113, 114, 98, 110, 112]⟩ : ByteArray)[3]'h).toNat : Nat)) : Int) = 98 := fun h => rfl
      replace hlet := Lib.hid hlet
      replace hKt := Lib.hid hKt
      replace hKf := Lib.hid hKf
      replace hOt := Lib.hid hOt
      replace hOf := Lib.hid hOf
      clear hK hO
      cases hp : (L == [98]) <;> cases hq : (L == [66]) <;> cases hr : (c == 98)
      all_goals
        go_wp2_with (go_at_call 11; refine (hlet.out _).mono ?_; rintro e w1 ⟨rfl, hb1⟩)
        go_roundw
        case rel => exact ⟨4, by omega, rfl, by first | exact congrArg (Value.int .i64) (hKt.out (.inl hp)).symm | exact congrArg (Value.int .i64) (hKt.out (.inr hq)).symm | exact congrArg (Value.int .i64) (hKf.out hp hq).symm, by first | exact congrArg (Value.int .i64) (hOt.out hr).symm | exact congrArg (Value.int .i64) (hOf.out hr).symm, hb.out.trans (hb1.mono hb.out.size)⟩
        case measure => simp [intOf]
    rcases hk' with rfl | hk'
    · have hK : lawK L 5 = if L = [110] ∨ L = [78] then 5 else lawK L 4 := rfl
      have hO : lawO c 5 = if c = 110 then 5 else lawO c 4 := rfl
      have hKt : (L == [110]) = true ∨ (L == [78]) = true → lawK L 5 = 5 := fun h => by rw [hK, if_pos (by simpa using h)]
      have hKf : (L == [110]) = false → (L == [78]) = false → lawK L 5 = lawK L 4 := fun h h' => by rw [hK, if_neg (by simp at h h'; simp [h, h'])]
      have hOt : (c == 110) = true → lawO c 5 = 5 := fun h => by rw [hO, if_pos (by simpa using h)]
      have hOf : (c == 110) = false → lawO c 5 = lawO c 4 := fun h => by rw [hO, if_neg (by simpa using h)]
      have hlet : ∀ w, Calls Tryd.prog 11 #[.int .i64 5] w fun e w' => e = .returned (.tuple #[.string (tx [110]), .bool true]) ∧ Below w.heap.size w w' := fun w => letter_any 4 (by omega) w
      have x1 : (⟨#[107, 113, 114, 98, 110, 112]⟩ : ByteArray).extract 4 5 = tx [110] := rfl
      have x2 : (⟨#[75, 81, 82, 66, 78, 80]⟩ : ByteArray).extract 4 5 = tx [78] := rfl
      have x3 : ∀ h : 4 < (⟨#[107, 113, 114, 98, 110, 112]⟩ : ByteArray).size, (((((⟨#[107, 113, 114, 98, 110, 112]⟩ : ByteArray)[4]'h).toNat : Nat)) : Int) = 110 := fun h => rfl
      replace hlet := Lib.hid hlet
      replace hKt := Lib.hid hKt
      replace hKf := Lib.hid hKf
      replace hOt := Lib.hid hOt
      replace hOf := Lib.hid hOf
      clear hK hO
      cases hp : (L == [110]) <;> cases hq : (L == [78]) <;> cases hr : (c == 110)
      all_goals
        go_wp2_with (go_at_call 11; refine (hlet.out _).mono ?_; rintro e w1 ⟨rfl, hb1⟩)
        go_roundw
        case rel => exact ⟨5, by omega, rfl, by first | exact congrArg (Value.int .i64) (hKt.out (.inl hp)).symm | exact congrArg (Value.int .i64) (hKt.out (.inr hq)).symm | exact congrArg (Value.int .i64) (hKf.out hp hq).symm, by first | exact congrArg (Value.int .i64) (hOt.out hr).symm | exact congrArg (Value.int .i64) (hOf.out hr).symm, hb.out.trans (hb1.mono hb.out.size)⟩
        case measure => simp [intOf]
    rcases hk' with rfl | hk'
    · have hK : lawK L 6 = if L = [112] ∨ L = [80] then 6 else lawK L 5 := rfl
      have hO : lawO c 6 = if c = 112 then 6 else lawO c 5 := rfl
      have hKt : (L == [112]) = true ∨ (L == [80]) = true → lawK L 6 = 6 := fun h => by rw [hK, if_pos (by simpa using h)]
      have hKf : (L == [112]) = false → (L == [80]) = false → lawK L 6 = lawK L 5 := fun h h' => by rw [hK, if_neg (by simp at h h'; simp [h, h'])]
      have hOt : (c == 112) = true → lawO c 6 = 6 := fun h => by rw [hO, if_pos (by simpa using h)]
      have hOf : (c == 112) = false → lawO c 6 = lawO c 5 := fun h => by rw [hO, if_neg (by simpa using h)]
      have hlet : ∀ w, Calls Tryd.prog 11 #[.int .i64 6] w fun e w' => e = .returned (.tuple #[.string (tx [112]), .bool true]) ∧ Below w.heap.size w w' := fun w => letter_any 5 (by omega) w
      have x1 : (⟨#[107, 113, 114, 98, 110, 112]⟩ : ByteArray).extract 5 6 = tx [112] := rfl
      have x2 : (⟨#[75, 81, 82, 66, 78, 80]⟩ : ByteArray).extract 5 6 = tx [80] := rfl
      have x3 : ∀ h : 5 < (⟨#[107, 113, 114, 98, 110, 112]⟩ : ByteArray).size, (((((⟨#[107, 113, 114, 98, 110, 112]⟩ : ByteArray)[5]'h).toNat : Nat)) : Int) = 112 := fun h => rfl
      replace hlet := Lib.hid hlet
      replace hKt := Lib.hid hKt
      replace hKf := Lib.hid hKf
      replace hOt := Lib.hid hOt
      replace hOf := Lib.hid hOf
      clear hK hO
      cases hp : (L == [112]) <;> cases hq : (L == [80]) <;> cases hr : (c == 112)
      all_goals
        go_wp2_with (go_at_call 11; refine (hlet.out _).mono ?_; rintro e w1 ⟨rfl, hb1⟩)
        go_roundw
        case rel => exact ⟨6, by omega, rfl, by first | exact congrArg (Value.int .i64) (hKt.out (.inl hp)).symm | exact congrArg (Value.int .i64) (hKt.out (.inr hq)).symm | exact congrArg (Value.int .i64) (hKf.out hp hq).symm, by first | exact congrArg (Value.int .i64) (hOt.out hr).symm | exact congrArg (Value.int .i64) (hOf.out hr).symm, hb.out.trans (hb1.mono hb.out.size)⟩
        case measure => simp [intOf]
    subst hk'
    have hlk := lawK_eq L
    have hlo := lawO_eq c
    by_cases h20 : L.length ≤ 20
    · have hd2 : decide ((20 : Int) < (L.length : Int)) = false := by simp; omega
      have htx := Lib.hid (implFromText_any L h20 wr (hT.out wr hb.out))
      have hby := Lib.hid fun w => implFromByte_any c w
      rw [hlk, hlo]
      clear hlk hlo
      generalize kindTxt L = a at *
      generalize kindT c = b at *
      go_wp2_with (first
        | (go_at_call 12; refine htx.out.mono ?_; rintro e w1 ⟨rfl, hb1⟩)
        | (go_at_call 13; refine (hby.out _).mono ?_; rintro e w' ⟨rfl, rfl⟩))
      trace_state
      go_ret
      exact ⟨rfl, hb.out.trans (hb1.mono hb.out.size)⟩
    · have hd2 : decide ((20 : Int) < (L.length : Int)) = true := by simp; omega
      go_wp2
      go_ret
      exact ⟨rfl, hb.out⟩
end Go.Proofs.YtkbbncobgmepbaaDoor.Letters

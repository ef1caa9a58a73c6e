/- The rights to castle, read out of their text. -/
import Derived.Test.YthdbgjhonnogpaaGreatDoorCkA
import Derived.Test.YthdbgjhonnogpaaGreatDoorTx
import Derived.Test.YthdbgjhonnogpaaGreatDoorLayU
import Derived.Shelf.Strings.OnBuilder
namespace Go.Proofs.YthdbgjhonnogpaaGreatDoor
open Go.ChangeShapes Go.WideShapes Go.ChangeAt Go.RowKit Plain
set_option maxHeartbeats 1000000
set_option linter.unusedVariables false
set_option linter.unusedSimpArgs false
attribute [local go_sem] tx_list

theorem one_at {l : List UInt8} {k : Nat} (hk : k < l.length) : (tx l).extract k (k + 1) = tx [l.getD k 0] := by
  rw [tx_extract]
  have : (l.take (k + 1)).drop k = [l.getD k 0] := by
    rw [List.take_add_one, List.getElem?_eq_getElem hk, List.drop_append_of_le_length (by rw [List.length_take]; omega), List.drop_eq_nil_of_le (by rw [List.length_take]; omega)]
    simp [List.getD_eq_getElem?_getD, List.getElem?_eq_getElem hk]
  rw [this]
def IdxC (l : List UInt8) (c : UInt8) (e : Ending) : Prop := ∃ i : Int, e = .returned (.int .i64 i) ∧ (0 ≤ i ↔ c ∈ l)
theorem zzIndexC (l : List UInt8) (c : UInt8) (hl : l.length ≤ 1000000) (w : World) :
    Calls Tryz.prog 80 #[.string (tx l), .string (tx [c])] w fun e w' => IdxC l c e ∧ w' = w := by
  have hsz : (tx l).size = l.length := rfl
  have hs1 : (tx [c]).size = 1 := rfl
  go_enter Tryz.func80, Tryz.ntmps80
  go_wp2_with (fail)
  go_loopw [5] (fun i wr => ∃ k : Nat, k ≤ l.length ∧ i = .int .i64 k ∧ c ∉ l.take k ∧ w = wr) (fun i _ => l.length - (intOf i).toNat)
  case atStart => exact ⟨0, by omega, rfl, by simp, rfl⟩
  case round =>
    obtain ⟨k, hk, rfl, hn, rfl⟩ := hrel
    by_cases hlt : k < l.length
    · have h1 := one_at hlt
      have hsl : ∀ w, (Instr.slice 9 (.string (tx l)) (some (.int .i64 (k : Int))) (some (.int .i64 ((k : Int) + 1))) none).run Tryz.prog w = .ok (.string (tx [l.getD k 0])) w := fun w => by
        rw [run_slice_string w _ _ _ _ _ _ Tryz.underlying9 (by omega) (by omega) (by rw [hsz]; omega), ← h1]
        rfl
      clear h1
      have hmem : l.getD k 0 ∈ l := by rw [List.getD_eq_getElem?_getD, List.getElem?_eq_getElem hlt]; exact List.getElem_mem hlt
      have hnx : l.getD k 0 ≠ c → c ∉ l.take (k + 1) := fun hc => by
        rw [List.take_add_one, List.getElem?_eq_getElem hlt]
        intro hx
        rcases List.mem_append.1 hx with hx | hx
        · exact hn hx
        · simp at hx
          exact hc (by rw [List.getD_eq_getElem?_getD, List.getElem?_eq_getElem hlt]; simp [hx])
      cases hce : (l.getD k 0 == c)
      · have hn' := Lib.hid (hnx (by simpa using hce))
        clear hn hnx hmem
        generalize l.getD k 0 = d at *
        go_wp2_with (fail)
        exact ⟨⟨k + 1, by omega, by go_num, hn'.out, trivial⟩, by simp [intOf]; omega⟩
      · have hcm : c ∈ l := by rw [← (by simpa using hce : l.getD k 0 = c)]; exact hmem
        replace hcm := Lib.hid hcm
        clear hn hnx hmem
        generalize l.getD k 0 = d at *
        go_wp2_with (fail)
        go_ret
        exact ⟨⟨_, rfl, ⟨fun _ => hcm.out, fun _ => by omega⟩⟩, rfl⟩
    · obtain rfl : k = l.length := by omega
      rw [List.take_length] at hn
      replace hn := Lib.hid hn
      go_wp2_with (fail)
      go_ret
      exact ⟨⟨_, rfl, ⟨fun h => by omega, fun h => absurd h hn.out⟩⟩, rfl⟩
theorem containsC (l : List UInt8) (c : UInt8) (hl : l.length ≤ 1000000) (w : World) :
    Calls Tryz.prog 58 #[.string (tx l), .string (tx [c])] w fun e w' => e = .returned (.bool (decide (c ∈ l))) ∧ w' = w := by
  have hc := Lib.hid (zzIndexC l c hl w)
  go_enter Tryz.func58, Tryz.ntmps58
  go_wp2_with (go_at_call 80; refine hc.out.mono ?_; rintro e w' ⟨⟨i, rfl, hi⟩, rfl⟩; replace hi := Lib.hid hi)
  go_ret
  refine ⟨?_, rfl⟩
  by_cases h : c ∈ l
  · have := hi.out.2 h
    simp [h, this]
  · have : ¬ 0 ≤ i := fun h2 => h (hi.out.1 h2)
    simp [h, this]
/-- The letter of a right. -/
def leC : Nat → UInt8
  | 0 => 75 | 1 => 81 | 2 => 107 | _ => 113
theorem upK : Lib.toUpperA [107] = [75] := by decide
theorem upQ : Lib.toUpperA [113] = [81] := by decide
set_option maxRecDepth 100000 in
theorem canCastle_any (l : List UInt8) (hl : l.length ≤ 1000000) (k : Nat) (hk : k < 4) (w : World) :
    Calls Tryz.prog 34 #[.string (tx l), .int .i8 ((k : Int) / 2 + 1), .int .i64 ((k : Int) % 2 + 1)] w fun e w' => e = .returned (.bool (decide (leC k ∈ l))) ∧ Below w.heap.size w w' := by
  have hC := fun (c : UInt8) w => containsC l c hl w
  have hu := fun (c : UInt8) (hc : c.toNat < 128) w => Any.strings_ToUpper_ascii lays_Lays_n158 lays_Builder_Extra (tx [c]) w (by show 1 ≤ _; decide) (fun j b hb => by
    have hb : [c][j]? = some b := hb
    cases j with
    | zero => simp at hb; subst hb; exact hc
    | succ j => simp at hb)
  have h0 := Lib.hid (show ∀ w, Calls Tryz.prog 57 #[.string { data := #[107] }] w fun e w' => e = .returned (.string { data := #[75] }) ∧ Below w.heap.size w w' from fun w => by
    have := hu 107 (by decide) w
    rw [show Lib.toUpperA (tx [107]).data.toList = [75] from upK] at this
    exact this)
  have h1 := Lib.hid (show ∀ w, Calls Tryz.prog 57 #[.string { data := #[113] }] w fun e w' => e = .returned (.string { data := #[81] }) ∧ Below w.heap.size w w' from fun w => by
    have := hu 113 (by decide) w
    rw [show Lib.toUpperA (tx [113]).data.toList = [81] from upQ] at this
    exact this)
  have c0 := Lib.hid (show ∀ w, Calls Tryz.prog 58 #[.string (tx l), .string { data := #[75] }] w fun e w' => e = .returned (.bool (decide ((75 : UInt8) ∈ l))) ∧ w' = w from hC 75)
  have c1 := Lib.hid (show ∀ w, Calls Tryz.prog 58 #[.string (tx l), .string { data := #[81] }] w fun e w' => e = .returned (.bool (decide ((81 : UInt8) ∈ l))) ∧ w' = w from hC 81)
  have c2 := Lib.hid (show ∀ w, Calls Tryz.prog 58 #[.string (tx l), .string { data := #[107] }] w fun e w' => e = .returned (.bool (decide ((107 : UInt8) ∈ l))) ∧ w' = w from hC 107)
  have c3 := Lib.hid (show ∀ w, Calls Tryz.prog 58 #[.string (tx l), .string { data := #[113] }] w fun e w' => e = .returned (.bool (decide ((113 : UInt8) ∈ l))) ∧ w' = w from hC 113)
  clear hu hC
  generalize tx l = TX at *
  (have : k = 0 ∨ k = 1 ∨ k = 2 ∨ k = 3 := (by omega))
  rcases this with rfl | rfl | rfl | rfl
  · have e1 : ((0 : Nat) : Int) / 2 + 1 = 1 := by decide
    have e2 : ((0 : Nat) : Int) % 2 + 1 = 1 := by decide
    rw [e1, e2]
    clear e1 e2
    go_enter Tryz.func34, Tryz.ntmps34
    go_wp2_with (first
      | (go_at_call 57; refine (h0.out _).mono ?_; rintro e w1 ⟨rfl, hb1⟩)
      | (go_at_call 58; refine (c0.out _).mono ?_; rintro e w' ⟨rfl, rfl⟩))
    go_ret
    exact ⟨rfl, hb1⟩
  · have e1 : ((1 : Nat) : Int) / 2 + 1 = 1 := by decide
    have e2 : ((1 : Nat) : Int) % 2 + 1 = 2 := by decide
    rw [e1, e2]
    clear e1 e2
    go_enter Tryz.func34, Tryz.ntmps34
    go_wp2_with (first
      | (go_at_call 57; refine (h1.out _).mono ?_; rintro e w1 ⟨rfl, hb1⟩)
      | (go_at_call 58; refine (c1.out _).mono ?_; rintro e w' ⟨rfl, rfl⟩))
    go_ret
    exact ⟨rfl, hb1⟩
  · have e1 : ((2 : Nat) : Int) / 2 + 1 = 2 := by decide
    have e2 : ((2 : Nat) : Int) % 2 + 1 = 1 := by decide
    rw [e1, e2]
    clear e1 e2
    go_enter Tryz.func34, Tryz.ntmps34
    go_wp2_with (go_at_call 58; refine (c2.out _).mono ?_; rintro e w' ⟨rfl, rfl⟩)
    go_ret
    exact ⟨rfl, Below.refl _ _⟩
  · have e1 : ((3 : Nat) : Int) / 2 + 1 = 2 := by decide
    have e2 : ((3 : Nat) : Int) % 2 + 1 = 2 := by decide
    rw [e1, e2]
    clear e1 e2
    go_enter Tryz.func34, Tryz.ntmps34
    go_wp2_with (go_at_call 58; refine (c3.out _).mono ?_; rintro e w' ⟨rfl, rfl⟩)
    go_ret
    exact ⟨rfl, Below.refl _ _⟩
end Go.Proofs.YthdbgjhonnogpaaGreatDoor

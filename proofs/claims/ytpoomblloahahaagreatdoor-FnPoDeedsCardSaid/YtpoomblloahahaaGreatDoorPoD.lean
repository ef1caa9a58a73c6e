/- A book's move in plain data: the contract of impl.PolyMove; the law FnPoMove. -/
import Derived.Test.YtpoomblloahahaaGreatDoorPoC
namespace Go.Proofs.YtpoomblloahahaaGreatDoor
open Go.ChangeShapes Go.WideShapes Go.ChangeAt Go.RowKit Go.PlainAid
set_option maxHeartbeats 1000000
set_option linter.unusedVariables false
set_option linter.unusedSimpArgs false
attribute [local go_sem] tx_list tx_size bt_tx

theorem mvV_lit (x y q : Int) : mvV x y q = .agg #[Value.pointer none, Value.pointer none, Value.string ⟨#[]⟩, Value.string ⟨#[]⟩, Value.map none, Value.slice none 0 0, Value.int .u64 0, Value.int .u16 0, Value.int .i8 x, Value.int .i8 y, Value.int .i8 q] := rfl
theorem toMove_any (a b c d p : Int) (ha : 0 ≤ a ∧ a < 8) (hb : 0 ≤ b ∧ b < 8) (hc : 0 ≤ c ∧ c < 8) (hd : 0 ≤ d ∧ d < 8) (hp : 0 ≤ p ∧ p ≤ 4) (w : World) :
    Calls Tryz.prog 22 #[polyV a b c d p false] w fun e w' => e = .returned (mvV (a + 8 * b) (c + 8 * d) (kindP p)) ∧ Below w.heap.size w w' := by
  have : p = 0 ∨ p = 1 ∨ p = 2 ∨ p = 3 ∨ p = 4 := by omega
  rcases this with rfl | rfl | rfl | rfl | rfl
  · exact toMove_0 a b c d ha hb hc hd w
  · exact toMove_1 a b c d ha hb hc hd w
  · exact toMove_2 a b c d ha hb hc hd w
  · exact toMove_3 a b c d ha hb hc hd w
  · exact toMove_4 a b c d ha hb hc hd w
theorem get0_any (g : Nat) (a b p t : Int) (w : World) (hm : w.rowIs g 57 11 (mvF a b p t)) :
    Calls Tryz.prog 31 #[.pointer (some ⟨g, 0, none⟩)] w fun e w' => e = .returned (.int .i8 a) ∧ w = w' := by
  have hc : w.cell? ⟨g, 8, none⟩ = some (.int .i8 a) := hm.cell (i := 8) (by omega)
  go_enter Tryz.func31, Tryz.ntmps31
  go_wp2
  go_ret
  exact ⟨rfl, rfl⟩
theorem get1_any (g : Nat) (a b p t : Int) (w : World) (hm : w.rowIs g 57 11 (mvF a b p t)) :
    Calls Tryz.prog 28 #[.pointer (some ⟨g, 0, none⟩)] w fun e w' => e = .returned (.int .i8 b) ∧ w = w' := by
  have hc : w.cell? ⟨g, 9, none⟩ = some (.int .i8 b) := hm.cell (i := 9) (by omega)
  go_enter Tryz.func28, Tryz.ntmps28
  go_wp2
  go_ret
  exact ⟨rfl, rfl⟩
theorem get2_any (g : Nat) (a b p t : Int) (w : World) (hm : w.rowIs g 57 11 (mvF a b p t)) :
    Calls Tryz.prog 32 #[.pointer (some ⟨g, 0, none⟩)] w fun e w' => e = .returned (.int .i8 p) ∧ w = w' := by
  have hc : w.cell? ⟨g, 10, none⟩ = some (.int .i8 p) := hm.cell (i := 10) (by omega)
  go_enter Tryz.func32, Tryz.ntmps32
  go_wp2
  go_ret
  exact ⟨rfl, rfl⟩
/-- A move in plain data. -/
def mv3 (a b p : Int) : Value := .agg #[.int .i64 a, .int .i64 b, .int .i64 p]
end Go.Proofs.YtpoomblloahahaaGreatDoor

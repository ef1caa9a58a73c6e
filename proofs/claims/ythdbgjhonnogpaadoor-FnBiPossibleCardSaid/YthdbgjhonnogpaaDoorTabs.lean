/- The program's tables as the world holds them when the law is called, and the attacks of sliding pieces. -/
import Derived.Test.YthdbgjhonnogpaaDoorBits
namespace Go.Proofs.YthdbgjhonnogpaaDoor
open Go.ChangeShapes Go.WideShapes Go.ChangeAt Go.RowKit Plain
set_option maxHeartbeats 400000
set_option linter.unusedVariables false
attribute [local go_sem] bv_and bv_or bv_xor bv_sub bv_andc bv_orc

/-- What the walks ask of the tables of lines. -/
structure Tabs (w : World) : Prop where
  dia : ∀ i, i < 64 → w.cell? ⟨3, i, none⟩ = some (.int .u64 (tn (BitVec.ofNat 64 (diagonals.getD i 0))))
  anti : ∀ i, i < 64 → w.cell? ⟨4, i, none⟩ = some (.int .u64 (tn (BitVec.ofNat 64 (antiDiagonals.getD i 0))))
  rank : ∀ i, i < 8 → w.cell? ⟨5, i, none⟩ = some (.int .u64 (tn (BitVec.ofNat 64 (ranks.getD i 0))))
  file : ∀ i, i < 8 → w.cell? ⟨6, i, none⟩ = some (.int .u64 (tn (BitVec.ofNat 64 (files.getD i 0))))

theorem cell_below {w w' : World} (hb : Below w.heap.size w w') {a : Addr} {v : Value} (h : w.cell? a = some v) : w'.cell? a = some v := by
  rw [hb.cell (block_lt_of_cell h), h]

theorem Tabs.below {w w' : World} (h : Tabs w) (hb : Below w.heap.size w w') : Tabs w' where
  dia i hi := cell_below hb (h.dia i hi)
  anti i hi := cell_below hb (h.anti i hi)
  rank i hi := cell_below hb (h.rank i hi)
  file i hi := cell_below hb (h.file i hi)
theorem Tabs.drew {w : World} (h : Tabs w) : Tabs w.drew := h.below ⟨rfl, rfl, rfl, Nat.le_refl _, fun _ _ => rfl⟩
theorem Tabs.drewN {w : World} (h : Tabs w) (n : Nat) : Tabs (w.drewN n) := h.below ⟨rfl, rfl, rfl, Nat.le_refl _, fun _ _ => rfl⟩

def diaOf (o : BitVec 64) (s : Nat) : BitVec 64 := linB o (bitB s) (BitVec.ofNat 64 (diagonals.getD s 0)) ||| linB o (bitB s) (BitVec.ofNat 64 (antiDiagonals.getD s 0))
def hvOf (o : BitVec 64) (s : Nat) : BitVec 64 := linB o (bitB s) (BitVec.ofNat 64 (ranks.getD (s / 8) 0)) ||| linB o (bitB s) (BitVec.ofNat 64 (files.getD (s % 8) 0))
theorem diaAttack_any (o : BitVec 64) (s : Int) (h0 : 0 ≤ s) (h1 : s < 64) (w : World) (hT : Tabs w) :
    Calls Tryd.prog 53 #[.int .u64 (tn o), .int .i8 s] w fun e w' => e = .returned (.int .u64 (tn (diaOf o s.toNat))) ∧ w = w' := by
  have hd := hT.dia s.toNat (by omega)
  have ha := hT.anti s.toNat (by omega)
  clear hT
  go_enter Tryd.func53, Tryd.ntmps53
  go_wp2_with (first | (go_at_call 62; refine (bbForSquare_any _ h0 h1 _).mono ?_; rintro e w' ⟨rfl, rfl⟩) | (go_at_call 63; refine (linearAttack_any _ _ _ _).mono ?_; rintro e w' ⟨rfl, rfl⟩))
  go_ret
  exact ⟨rfl, rfl⟩
theorem sqFile_any (s : Int) (h0 : 0 ≤ s) (h1 : s < 64) (w : World) :
    Calls Tryd.prog 65 #[.int .i8 s] w fun e w' => e = .returned (.int .i8 (s % 8)) ∧ w = w' := by
  go_enter Tryd.func65, Tryd.ntmps65
  go_wp2
  go_ret
  exact ⟨rfl, rfl⟩
theorem sqRank_any (s : Int) (h0 : 0 ≤ s) (h1 : s < 64) (w : World) :
    Calls Tryd.prog 64 #[.int .i8 s] w fun e w' => e = .returned (.int .i8 (s / 8)) ∧ w = w' := by
  go_enter Tryd.func64, Tryd.ntmps64
  go_wp2
  go_ret
  exact ⟨ret_int (by rw [Int.tdiv_eq_ediv_of_nonneg h0]; exact IntWalk.i8_in _ (by omega)), rfl⟩
theorem hvAttack_any (o : BitVec 64) (s : Int) (h0 : 0 ≤ s) (h1 : s < 64) (w : World) (hT : Tabs w) :
    Calls Tryd.prog 54 #[.int .u64 (tn o), .int .i8 s] w fun e w' => e = .returned (.int .u64 (tn (hvOf o s.toNat))) ∧ w = w' := by
  obtain ⟨k, rfl⟩ : ∃ k : Nat, s = k := ⟨s.toNat, by omega⟩
  have hd := hT.rank (k / 8) (by omega)
  have ha := hT.file (k % 8) (by omega)
  have b1 : (k : Int) / 8 < 8 := by omega
  have b2 : (k : Int) % 8 < 8 := by omega
  have b3 : 0 ≤ (k : Int) / 8 := by omega
  have b4 : 0 ≤ (k : Int) % 8 := by omega
  clear hT
  go_enter Tryd.func54, Tryd.ntmps54
  go_wp2_with (first | (go_at_call 62; refine (bbForSquare_any _ h0 h1 _).mono ?_; rintro e w' ⟨rfl, rfl⟩) | (go_at_call 63; refine (linearAttack_any _ _ _ _).mono ?_; rintro e w' ⟨rfl, rfl⟩) | (go_at_call 64; refine (sqRank_any _ h0 h1 _).mono ?_; rintro e w' ⟨rfl, rfl⟩) | (go_at_call 65; refine (sqFile_any _ h0 h1 _).mono ?_; rintro e w' ⟨rfl, rfl⟩))
  go_ret
  exact ⟨rfl, rfl⟩
end Go.Proofs.YthdbgjhonnogpaaDoor

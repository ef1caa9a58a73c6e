/- A board out of a map: the contract of NewBoard. -/
import Derived.Test.YthdbgjhonnogpaaDoorCalc
namespace Go.Proofs.YthdbgjhonnogpaaDoor
open Go.ChangeShapes Go.WideShapes Go.ChangeAt Go.RowKit Plain
set_option maxHeartbeats 4000000
set_option linter.unusedVariables false
set_option linter.unusedSimpArgs false
attribute [local go_sem] bv_and bv_or bv_xor bv_sub bv_andc bv_orc bv_not bv_shl1

/-- The number of the squares on which p stands, of the first n. -/
def bbGo (v : Nat → Int) (p : Int) : Nat → BitVec 64
  | 0 => 0#64
  | n + 1 => if v n = p then (bbGo v p n <<< 1) ||| BitVec.ofNat 64 1 else bbGo v p n <<< 1
def bbsOf (v : Nat → Int) (j : Nat) : BitVec 64 := bbGo v ((j : Int) + 1) 64
def zeroB (j : Nat) : Value := if j < 15 then .int .u64 0 else .int .i8 0
def partB (v : Nat → Int) (k : Nat) (j : Nat) : Value := if j < k then .int .u64 (tn (bbsOf v j)) else zeroB j

def zeroCells : Array Value := #[.int .u64 0, .int .u64 0, .int .u64 0, .int .u64 0, .int .u64 0, .int .u64 0, .int .u64 0, .int .u64 0, .int .u64 0, .int .u64 0, .int .u64 0, .int .u64 0, .int .u64 0, .int .u64 0, .int .u64 0, .int .i8 0, .int .i8 0]
theorem zeroCells_get : ∀ i, i < 17 → zeroCells[i]? = some (zeroB i) := by
  intro i hi
  have : i = 0 ∨ i = 1 ∨ i = 2 ∨ i = 3 ∨ i = 4 ∨ i = 5 ∨ i = 6 ∨ i = 7 ∨ i = 8 ∨ i = 9 ∨ i = 10 ∨ i = 11 ∨ i = 12 ∨ i = 13 ∨ i = 14 ∨ i = 15 ∨ i = 16 := by omega
  rcases this with rfl | rfl | rfl | rfl | rfl | rfl | rfl | rfl | rfl | rfl | rfl | rfl | rfl | rfl | rfl | rfl | rfl <;> rfl
theorem rowZero (w : World) : (w.alloc (.cells zeroCells tBoard)).rowIs w.heap.size tBoard 17 zeroB :=
  World.rowIs_alloc w zeroCells tBoard zeroB (fun i hi => zeroCells_get i hi)
set_option maxRecDepth 100000 in
theorem newBoard_any (bm n : Nat) (v : Nat → Int) (w : World) (hm : mapIs w bm n v) (hT : TabsP w) :
    Calls Tryd.prog 52 #[.map (some bm)] w fun e w' => e = .returned (.pointer (some ⟨w.heap.size, 0, none⟩)) ∧ w'.rowIs w.heap.size tBoard 17 (calcRow (bbsOf v) 64) ∧ Below w.heap.size w w' := by
  have hbm := mapIs_lt hm
  obtain ⟨b, o, hT1, hT2⟩ := hT
  have hA1 : ∀ X, (w.alloc X).cell? ⟨2, 0, none⟩ = some (.slice (some ⟨b, o, none⟩) 12 12) := fun X => cell_below ((Below.refl _ _).alloc (Nat.le_refl _) X) hT1
  go_enter Tryd.func52, Tryd.ntmps52
  go_wp2
  clear hA1
  go_loopw [14] (fun i wr => ∃ k : Nat, k ≤ 12 ∧ i = .int .i64 k ∧ wr.rowIs w.heap.size tBoard 17 (partB v k) ∧ Below w.heap.size w wr) (fun i _ => 12 - (intOf i).toNat)
  case atStart =>
    refine ⟨0, by omega, rfl, ?_, (Below.refl _ _).alloc (Nat.le_refl _) _⟩
    exact (rowZero w).congr fun j _ => by simp [partB]
  case round =>
    obtain ⟨k, hk, rfl, hr, hb⟩ := hrel
    have hmr := mapIs_below hm hb hbm
    by_cases hlt : k < 12
    · have hcell := cell_below hb (hT2 k hlt)
      have hltb : decide ((k : Int) < 12) = true := by simp; omega
      clear hT1 hT2
      obtain ⟨wo, rfl⟩ : ∃ wo : World, wo = wr := ⟨_, rfl⟩
      go_wp2
      go_loopw [6, 18] (fun x i wi => ∃ q : Nat, q ≤ 64 ∧ i = .int .i64 q ∧ x = .int .u64 (tn (bbGo v ((k : Int) + 1) q)) ∧ wi = wo) (fun _ i _ => 64 - (intOf i).toNat)
      case atStart => exact ⟨0, by omega, rfl, rfl, rfl⟩
      case round =>
        obtain ⟨q, hq, rfl, rfl, rfl⟩ := hrel
        by_cases hq64 : q < 64
        · have hs1 : bbGo v ((k : Int) + 1) (q + 1) = if v q = (k : Int) + 1 then (bbGo v ((k : Int) + 1) q <<< 1) ||| BitVec.ofNat 64 1 else bbGo v ((k : Int) + 1) q <<< 1 := rfl
          by_cases hv : v q = (k : Int) + 1
          · have HS := Lib.hid (hs1.trans (if_pos hv))
            have hv1 : (((k : Int) + 1) == v q) = true := by simp [hv]
            have hv0 : v q ≠ 0 := by omega
            clear hs1 hv
            go_wp2_with (at_lookup; refine wpList_lookupSq _ rfl _ _ rfl bm n v rfl hmr q hq64 rfl ?_; intro bo hbo; cases bo; exact absurd (hbo rfl) hv0; clear hbo)
            go_roundw
            case rel => exact ⟨q + 1, by omega, by go_num, by rw [HS.out], trivial⟩
            case measure => simp [intOf]; omega
          · have HS := Lib.hid (hs1.trans (if_neg hv))
            have hv1 : (((k : Int) + 1) == v q) = false := by simp; omega
            clear hs1 hv
            go_wp2_with (at_lookup; refine wpList_lookupSq _ rfl _ _ rfl bm n v rfl hmr q hq64 rfl ?_; intro bo hbo; clear hbo; cases bo)
            all_goals
              go_roundw
              case rel => exact ⟨q + 1, by omega, by go_num, by rw [HS.out], trivial⟩
              case measure => simp [intOf]; omega
        · obtain rfl : q = 64 := by omega
          have hset := hr.set k (.int .u64 (tn (bbsOf v k)))
          have hk1 : (((k : Int) + 1) - 1).toNat = k := by omega
          have hR : (wr.setCell ⟨w.heap.size, k, none⟩ (.int .u64 (tn (bbsOf v k)))).rowIs w.heap.size tBoard 17 (partB v (k + 1)) := hset.congr fun j _ => by
            unfold partB
            by_cases e : j = k
            · subst e; simp
            · have : (j < k + 1) = (j < k) := by simp only [eq_iff_iff]; omega
              simp [e, this]
          have hB : Below w.heap.size w (wr.setCell ⟨w.heap.size, k, none⟩ (.int .u64 (tn (bbsOf v k)))) := hb.setCell (Nat.le_refl _) _
          have hcall := setBB_any w.heap.size _ wr hr (bbsOf v k) ((k : Int) + 1) (by omega) (by omega)
          rw [hk1] at hcall
          have hcall := Lib.hid hcall
          clear hset hr hb hk1
          go_wp2_with (go_at_call 60; refine hcall.out.mono ?_; rintro e w' ⟨rfl, rfl⟩)
          exact ⟨⟨k + 1, by omega, by go_num, hR, hB⟩, by simp [intOf]; omega⟩
    · obtain rfl : k = 12 := by omega
      have hcall := calc_any w.heap.size _ (bbsOf v) wr hr (fun j hj => by unfold partB; rw [if_pos hj])
      have hcall := Lib.hid hcall
      clear hr hT1 hT2
      go_wp2_with (go_at_call 61; refine hcall.out.mono ?_; rintro e w' ⟨rfl, hr2, hg2⟩)
      go_ret
      exact ⟨rfl, hr2, hb.grown hg2 hb.size (by intro k hk; cases hk; exact Nat.le_refl _)⟩
end Go.Proofs.YthdbgjhonnogpaaDoor

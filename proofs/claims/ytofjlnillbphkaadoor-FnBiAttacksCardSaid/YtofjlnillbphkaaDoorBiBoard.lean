/- A board on which some squares are taken: the contract of laws.biBoard. -/
import Derived.Test.YtofjlnillbphkaaDoorBiOf
import Derived.Test.YtofjlnillbphkaaDoorRowsK
namespace Go.Proofs.YtofjlnillbphkaaDoor
open Go.ChangeShapes Go.WideShapes Go.ChangeAt Go.RowKit Plain
set_option maxHeartbeats 400000
set_option linter.unusedVariables false
set_option linter.unusedSimpArgs false

def takenAt (x : BitVec 64) (but : Int) (k : Nat) (j : Nat) : Int := if j < k ∧ occ x.toNat j = true ∧ (j : Int) ≠ but then 5 else 0
theorem takenAt_zero (x : BitVec 64) (but : Int) (j : Nat) : takenAt x but 0 j = 0 := by simp [takenAt]
theorem takenAt_yes (x : BitVec 64) (but : Int) (k : Nat) (h1 : occ x.toNat k = true) (h2 : (k : Int) ≠ but) (j : Nat) : takenAt x but (k + 1) j = if j = k then 5 else takenAt x but k j := by
  unfold takenAt
  by_cases e : j = k
  · subst e; simp [h1, h2]
  · have : (j < k + 1) = (j < k) := by simp only [eq_iff_iff]; omega
    simp [e, this]
theorem takenAt_no (x : BitVec 64) (but : Int) (k : Nat) (h : occ x.toNat k = false ∨ (k : Int) = but) (j : Nat) : takenAt x but (k + 1) j = takenAt x but k j := by
  unfold takenAt
  by_cases e : j = k
  · subst e; rcases h with h | h <;> simp [h]
  · have : (j < k + 1) = (j < k) := by simp only [eq_iff_iff]; omega
    simp [this]
theorem infoPos : (Tryd.prog.info? 37).map (·.size) = some 69 := by kernel_rfl

theorem zeroPos : Tryd.zeroCells37 = rowArr 69 fun _ => .int .i64 0 := by kernel_rfl
set_option maxRecDepth 100000 in
theorem biBoard_any (x : BitVec 64) (but : Int) (w : World) :
    Calls Tryd.prog 17 #[.int .u64 (tn x), .int .i64 but] w fun e w' => e = .returned (intRow 69 (takenAt x but 64)) ∧ Below w.heap.size w w' := by
  have hz : ∀ v : World, (v.alloc (.cells Tryd.zeroCells37 37)).rowIs v.heap.size 37 69 (fun _ => .int .i64 0) := fun v => by rw [zeroPos]; exact rowIs_new v _ _ _
  have h0 := (hz w).alloc (.cells Tryd.zeroCells37 37)
  have h1 := hz (w.alloc (.cells Tryd.zeroCells37 37))
  have hb : Below w.heap.size w ((w.alloc (.cells Tryd.zeroCells37 37)).alloc (.cells Tryd.zeroCells37 37)) := ((Below.refl _ _).alloc (Nat.le_refl _) _).alloc (by simp) _
  clear hz
  go_enter Tryd.func17, Tryd.ntmps17
  go_wp2
  go_loopw [6] (fun i wr => ∃ k : Nat, k ≤ 64 ∧ i = .int .i64 k ∧ wr.rowIs (w.heap.size + 1) 37 69 (fun j => .int .i64 (takenAt x but k j)) ∧ wr.rowIs w.heap.size 37 69 (fun _ => .int .i64 0) ∧ Below w.heap.size w wr) (fun i _ => 64 - (intOf i).toNat)
  case atStart => exact ⟨0, by omega, rfl, (by simpa using h1.congr (fun i _ => by rw [takenAt_zero])), h0, hb⟩
  case round =>
    clear h0 h1 hb
    obtain ⟨k, hk, rfl, hr, hr0, hb⟩ := hrel
    by_cases hlt : k < 64
    · by_cases hy1 : occ x.toNat k = true
      · have ht : occ x.toNat k = true := hy1
        by_cases hy2 : (k : Int) = but
        · have hR := hr.congr (g := fun j => .int .i64 (takenAt x but (k + 1) j)) fun j _ => by rw [takenAt_no x but k (.inr hy2)]
          have hne : ((k : Int) != but) = false := by simpa using hy2
          clear hr hy1 hy2
          go_wp2_with (first | (go_at_call 32; refine (biOn_any x _ (by omega) (by omega) _).mono ?_; rintro e w' ⟨rfl, rfl⟩) | (go_at_call 18; refine (of_any _ _ (by omega) (by omega) (by omega) (by omega) _).mono ?_; rintro e w' ⟨rfl, rfl⟩))
          exact ⟨⟨k + 1, by omega, by go_num, hR, hr0, hb⟩, by simp [intOf]; omega⟩
        · have hc := hr.cell (i := k) (by omega)
          have hf := hr.frozen k
          have hs := hr.set k (.int .i64 5)
          have hR : (wr.setCell ⟨w.heap.size + 1, k, none⟩ (.int .i64 5)).rowIs (w.heap.size + 1) 37 69 (fun j => .int .i64 (takenAt x but (k + 1) j)) := hs.congr fun j _ => by rw [takenAt_yes x but k hy1 hy2]; split <;> simp_all
          have hR0 := hr0.setOther (a := ⟨w.heap.size + 1, k, none⟩) (by simp) (.int .i64 5)
          have hB : Below w.heap.size w (wr.setCell ⟨w.heap.size + 1, k, none⟩ (.int .i64 5)) := hb.setCell (by simp) _
          have hne : ((k : Int) != but) = true := by simpa using hy2
          clear hr hs hr0 hb hy1 hy2
          go_wp2_with (first | (go_at_call 32; refine (biOn_any x _ (by omega) (by omega) _).mono ?_; rintro e w' ⟨rfl, rfl⟩) | (go_at_call 18; refine (of_any _ _ (by omega) (by omega) (by omega) (by omega) _).mono ?_; rintro e w' ⟨rfl, rfl⟩))
          exact ⟨⟨k + 1, by omega, by go_num, hR, hR0, hB⟩, by simp [intOf]; omega⟩
      · have ht : occ x.toNat k = false := by simpa using hy1
        have hR := hr.congr (g := fun j => .int .i64 (takenAt x but (k + 1) j)) fun j _ => by rw [takenAt_no x but k (.inl (by simpa using hy1))]
        clear hr hy1
        go_wp2_with (first | (go_at_call 32; refine (biOn_any x _ (by omega) (by omega) _).mono ?_; rintro e w' ⟨rfl, rfl⟩) | (go_at_call 18; refine (of_any _ _ (by omega) (by omega) (by omega) (by omega) _).mono ?_; rintro e w' ⟨rfl, rfl⟩))
        exact ⟨⟨k + 1, by omega, by go_num, hR, hr0, hb⟩, by simp [intOf]; omega⟩
    · obtain rfl : k = 64 := by omega
      go_wp2_with (first
        | (refine wpList_load_row rfl 37 _ rfl (w.heap.size + 1) rfl _ _ (0, 0) _ (rowIs_block hr) Tryd.underlying37 rfl (by rw [infoPos, rowArr_size]) ?_)
        | (refine wpList_store_row rfl 37 _ _ rfl w.heap.size _ rfl rfl _ _ (rowIs_block hr0) (by rw [infoPos, rowArr_size]) (by rw [rowArr_size, rowArr_size]) (intRow_one _ _) ?_))
      refine bodyPost_ret (results_cell_row rfl _ _ w.heap.size _ _ (0, 0) _ rfl (rowIs_block (rowIs_setRow hr0 _)) Tryd.underlying37 rfl (by rw [infoPos, rowArr_size])) rfl ?_
      exact ⟨rfl, below_setRow hb (Nat.le_refl _) _⟩
end Go.Proofs.YtofjlnillbphkaaDoor

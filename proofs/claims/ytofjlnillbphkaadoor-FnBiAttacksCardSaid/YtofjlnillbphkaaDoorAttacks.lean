/- What a bishop and a rook see: the program's attacks and the reference's, each by its contract; the law's walk. -/
import Derived.Test.YtofjlnillbphkaaDoorReach
import Derived.Deep.RegionWith
namespace Go.Proofs.YtofjlnillbphkaaDoor
open Go.ChangeShapes Go.WideShapes Go.ChangeAt Go.RowKit Plain
set_option maxHeartbeats 400000
set_option linter.unusedVariables false
set_option linter.unusedSimpArgs false

theorem square_any (s : Int) (h0 : 0 ≤ s) (h1 : s < 64) (w : World) :
    Calls Tryd.prog 14 #[.int .i64 s] w fun e w' => e = .returned (.int .i8 s) ∧ w = w' := by
  go_enter Tryd.func14, Tryd.ntmps14
  go_wp2
  go_ret
  exact ⟨rfl, rfl⟩
theorem doorDia_any (o : BitVec 64) (s : Int) (h0 : 0 ≤ s) (h1 : s < 64) (w : World) (hT : Tabs w) :
    Calls Tryd.prog 13 #[.int .u64 (tn o), .int .i8 s] w fun e w' => e = .returned (.int .u64 (tn (diaOf o s.toNat))) ∧ w = w' := by
  have H := diaAttack_any o s h0 h1 w hT
  clear hT
  go_enter Tryd.func13, Tryd.ntmps13
  go_wp2_with (go_at_call 30; refine H.mono ?_; rintro e w' ⟨rfl, rfl⟩)
  go_ret
  exact ⟨rfl, rfl⟩
theorem doorHv_any (o : BitVec 64) (s : Int) (h0 : 0 ≤ s) (h1 : s < 64) (w : World) (hT : Tabs w) :
    Calls Tryd.prog 16 #[.int .u64 (tn o), .int .i8 s] w fun e w' => e = .returned (.int .u64 (tn (hvOf o s.toNat))) ∧ w = w' := by
  have H := hvAttack_any o s h0 h1 w hT
  clear hT
  go_enter Tryd.func16, Tryd.ntmps16
  go_wp2_with (go_at_call 31; refine H.mono ?_; rintro e w' ⟨rfl, rfl⟩)
  go_ret
  exact ⟨rfl, rfl⟩
theorem clo_DiaAttack (p0 p1 : Addr) (w : World) :
    CallsD Tryd.prog 12 #[.pointer (some p0), .pointer (some p1)] .returning w fun e u' w' => e = .returned (.tuple #[]) ∧ u' = .returning ∧ w' = w := by
  refine callsD_of_wpS Tryd.func12 rfl fun c₀ cs hu => ?_
  apply wpS_seq
  apply wpS_region
  simp [wpOpsS, go_sem, recoverD, hu, Tryd.ntmps12, Exit.thenS]
  refine wpS_cond (t := false) (by simp [Act.eval, Array.replicate]) ?_
  simp only [Bool.false_eq_true, if_false]
  refine wpS_of_wp (wp_skip ?_)
  cases c₀
  simp_all [bodyPostS, results, Tryd.results12]

theorem clo_HvAttack (p0 p1 : Addr) (w : World) :
    CallsD Tryd.prog 15 #[.pointer (some p0), .pointer (some p1)] .returning w fun e u' w' => e = .returned (.tuple #[]) ∧ u' = .returning ∧ w' = w := by
  refine callsD_of_wpS Tryd.func15 rfl fun c₀ cs hu => ?_
  apply wpS_seq
  apply wpS_region
  simp [wpOpsS, go_sem, recoverD, hu, Tryd.ntmps15, Exit.thenS]
  refine wpS_cond (t := false) (by simp [Act.eval, Array.replicate]) ?_
  simp only [Bool.false_eq_true, if_false]
  refine wpS_of_wp (wp_skip ?_)
  cases c₀
  simp_all [bodyPostS, results, Tryd.results15]

theorem dia_any (o : BitVec 64) (s : Int) (h0 : 0 ≤ s) (h1 : s < 64) (w : World) (hT : Tabs w) :
    Calls Tryd.prog 5 #[.int .u64 (tn o), .int .i64 s] w fun e w' => e = .returned (.tuple #[.int .u64 (tn (diaOf o s.toNat)), .bool true]) ∧ Below w.heap.size w w' := by
  have hmf := mkf Tryd.prog
  have hB : Below w.heap.size w ((w.alloc (.cells #[.int .u64 0] 22)).alloc (.cells #[.bool false] 4)) := ((Below.refl _ _).alloc (Nat.le_refl _) _).alloc (by simp) _
  have hT2 := hT.below hB
  clear hT
  go_enter_defers Tryd.func5, Tryd.ntmps5
  go_wp2_with (first | (go_at_call 14; refine (square_any _ h0 h1 _).mono ?_; rintro e w' ⟨rfl, rfl⟩) | (go_at_call 13; refine (doorDia_any _ _ h0 h1 _ hT2).mono ?_; rintro e w' ⟨rfl, rfl⟩))
  refine leaves_cons (f := 12) (args := #[.pointer (some ⟨w.heap.size, 0, none⟩), .pointer (some ⟨w.heap.size + 1, 0, none⟩)]) (by simp) (by simp [go_sem]) ?_
  refine (clo_DiaAttack _ _ _).mono ?_
  rintro e u' w'' ⟨rfl, rfl, rfl⟩
  simp [Leaves, settle, results, Tryd.results5, go_sem]
  exact ((Below.refl _ _).alloc (Nat.le_refl _) _).alloc (by simp) _
theorem hv_any (o : BitVec 64) (s : Int) (h0 : 0 ≤ s) (h1 : s < 64) (w : World) (hT : Tabs w) :
    Calls Tryd.prog 6 #[.int .u64 (tn o), .int .i64 s] w fun e w' => e = .returned (.tuple #[.int .u64 (tn (hvOf o s.toNat)), .bool true]) ∧ Below w.heap.size w w' := by
  have hmf := mkf Tryd.prog
  have hB : Below w.heap.size w ((w.alloc (.cells #[.int .u64 0] 22)).alloc (.cells #[.bool false] 4)) := ((Below.refl _ _).alloc (Nat.le_refl _) _).alloc (by simp) _
  have hT2 := hT.below hB
  clear hT
  go_enter_defers Tryd.func6, Tryd.ntmps6
  go_wp2_with (first | (go_at_call 14; refine (square_any _ h0 h1 _).mono ?_; rintro e w' ⟨rfl, rfl⟩) | (go_at_call 16; refine (doorHv_any _ _ h0 h1 _ hT2).mono ?_; rintro e w' ⟨rfl, rfl⟩))
  refine leaves_cons (f := 15) (args := #[.pointer (some ⟨w.heap.size, 0, none⟩), .pointer (some ⟨w.heap.size + 1, 0, none⟩)]) (by simp) (by simp [go_sem]) ?_
  refine (clo_HvAttack _ _ _).mono ?_
  rintro e u' w'' ⟨rfl, rfl, rfl⟩
  simp [Leaves, settle, results, Tryd.results6, go_sem]
  exact ((Below.refl _ _).alloc (Nat.le_refl _) _).alloc (by simp) _

def seesOf (k : Int) (x : BitVec 64) (s : Nat) : List Nat := reachL k (occ x.toNat) s
theorem seesOf_is {x : BitVec 64} {k : Int} (hk : k = 3 ∨ k = 4) {s : Nat} (hs : s < 64) :
    reachL (kindOf (if s = s then k else takenAt x s 64 s)) (takenF fun i => if i = s then k else takenAt x s 64 i) s = seesOf k x s := by
  have e : kindOf (if s = s then k else takenAt x s 64 s) = k := by rw [if_pos rfl]; unfold kindOf; split <;> omega
  rw [e]
  have hr := allBelow_of rays_ok s hs
  simp only [raysOk, List.all_eq_true] at hr
  unfold seesOf reachL
  have hw : ∀ d ∈ waysL k, ∀ t ∈ ray s d.1 d.2, t < 64 ∧ t ≠ s := by
    intro d hd t ht
    have hd' : d ∈ [((0 : Int), (1 : Int)), (1, 0), (0, -1), (-1, 0), (1, 1), (1, -1), (-1, -1), (-1, 1)] := by
      rcases hk with rfl | rfl
      · have : waysL 3 = straightL := rfl
        rw [this] at hd
        simp only [straightL, List.mem_cons, List.not_mem_nil, or_false] at hd
        rcases hd with rfl | rfl | rfl | rfl <;> decide
      · have : waysL 4 = slantingL := rfl
        rw [this] at hd
        simp only [slantingL, List.mem_cons, List.not_mem_nil, or_false] at hd
        rcases hd with rfl | rfl | rfl | rfl <;> decide
    have := hr d hd' t ht
    simpa using this
  have hfar : farL k = true := by rcases hk with rfl | rfl <;> rfl
  rw [List.flatMap_def, List.flatMap_def]
  congr 1
  apply List.map_congr_left
  intro d hd
  rw [hfar]
  simp only [stepL, if_true]
  apply upTo_congr
  intro t ht
  obtain ⟨h1, h2⟩ := hw d hd t ht
  simp only [takenF, if_neg h2, takenAt]
  have h3 : (t : Int) ≠ (s : Int) := by omega
  by_cases ho : occ x.toNat t = true
  · simp [h1, ho, h3]
  · simp [ho]
set_option maxRecDepth 100000 in
theorem biReach_any (x : BitVec 64) (k : Int) (hk : k = 3 ∨ k = 4) (s : Nat) (hs : s < 64) (w : World) :
    Calls Tryd.prog 7 #[.int .u64 (tn x), .int .i64 k, .int .i64 s] w fun e w' => e = .returned (.int .u64 (tn (orB (seesOf k x s)))) ∧ Below w.heap.size w w' := by
  obtain ⟨g', hg'⟩ : ∃ g' : Nat → Int, g' = fun i => if i = s then k else takenAt x s 64 i := ⟨_, rfl⟩
  have hsees : Hid (reachL (kindOf (g' s)) (takenF g') s = seesOf k x s) := by rw [hg']; exact Lib.hid (seesOf_is (x := x) hk hs)
  have hg : ∀ i, i < 64 → 0 ≤ g' i ∧ g' i ≤ 12 := by
    rw [hg']
    intro i _
    show 0 ≤ (if i = s then k else takenAt x s 64 i) ∧ (if i = s then k else takenAt x s 64 i) ≤ 12
    unfold takenAt; split <;> (try split) <;> omega
  have hgi : Hid (∀ j, (if j = s then Value.int .i64 k else Value.int .i64 (takenAt x s 64 j)) = Value.int .i64 (g' j)) := by rw [hg']; exact Lib.hid (fun j => by by_cases h : j = s <;> simp [h])
  clear hg'
  go_enter Tryd.func7, Tryd.ntmps7
  go_wp2_with (first
    | (go_at_call 17; refine (biBoard_any _ _ _).mono ?_; rintro e w1 ⟨rfl, hb1⟩; have hz : (w1.alloc (.cells Tryd.zeroCells37 37)).rowIs w1.heap.size 37 69 (fun _ => .int .i64 0) := (by rw [zeroPos]; exact rowIs_new w1 _ _ _); have hb2 := hb1.alloc hb1.size (.cells Tryd.zeroCells37 37))
    | (refine wpList_store_row rfl 37 _ _ rfl w1.heap.size _ rfl rfl _ _ (rowIs_block hz) (by rw [infoPos, rowArr_size]) (by rw [rowArr_size, rowArr_size]) (intRow_one _ _) ?_; have hr1 := rowIs_setRow hz (fun i => .int .i64 (takenAt x s 64 i)); have hb3 := below_setRow hb2 hb1.size (rowArr 69 fun i => .int .i64 (takenAt x s 64 i)); generalize (w1.alloc (.cells Tryd.zeroCells37 37)).setRow w1.heap.size (rowArr 69 fun i => .int .i64 (takenAt x s 64 i)) = w2 at *; have hc1 := hr1.cell (i := s) (by omega); have hf1 := hr1.frozen s; have hr2 := (hr1.set s (.int .i64 k)).congr (g := fun i => .int .i64 (g' i)) (fun j _ => hgi.out j); have hb4 := hb3.setCell (p := ⟨w1.heap.size, s, none⟩) hb1.size (.int .i64 k); clear hz hb2 hr1 hb3)
    | (go_at_call 18; refine (of_any _ _ (by omega) (by omega) (by omega) (by omega) _).mono ?_; rintro e w' ⟨rfl, rfl⟩)
    | (refine wpList_load_row rfl 37 _ rfl w1.heap.size rfl _ _ (0, 0) _ (rowIs_block hr2) Tryd.underlying37 rfl (by rw [infoPos, rowArr_size]) ?_))
  refine (reach_any g' hg s hs _).mono ?_
  rintro e w3 ⟨v, B, rfl, hown, hBs, hb5⟩
  have hsl : ∀ t ∈ seesOf k x s, t < 64 := reachL_lt _ _ _
  have hsn : (seesOf k x s).length ≤ 1000000 := by have := reachL_length k (occ x.toNat) s; unfold seesOf; omega
  have hown2 : w3.ownsRow B 3 1 v (seesOf k x s).length (ints (seesOf k x s)) := by rw [← hsees.out]; exact hown
  clear hown hsees hr2
  go_wp2_with (go_at_call 19; refine (biOf_any v _ _ hown2 hsl hsn).mono ?_; rintro e w' ⟨rfl, rfl⟩)
  go_ret
  exact ⟨rfl, hb4.trans (hb5.mono hb4.size)⟩

/-! ### The law. -/
theorem bitB_toNat (s : Nat) : (bitB s).toNat = bit s := by
  have h2 : 2 ^ (63 - s) < 18446744073709551616 := Nat.pow_lt_pow_right (a := 2) (m := 63 - s) (n := 64) (by decide) (by omega)
  rw [bitB, BitVec.toNat_ofNat, Nat.mod_eq_of_lt h2, bit]
theorem tab_toNat {l : List Nat} (h : l.all (fun n => decide (n < 18446744073709551616)) = true) (i : Nat) : (BitVec.ofNat 64 (l.getD i 0)).toNat = l.getD i 0 := by
  rw [BitVec.toNat_ofNat]
  apply Nat.mod_eq_of_lt
  by_cases hi : i < l.length
  · have := List.all_eq_true.1 h l[i] (List.getElem_mem hi)
    simpa [List.getD, hi] using this
  · simp [List.getD, hi]
theorem orB_toNat (l : List Nat) : (orB l).toNat = orBits l := by rw [orB, BitVec.toNat_ofNat, Nat.mod_eq_of_lt (orBits_lt l)]
theorem rook_is (x : BitVec 64) (s : Nat) (hs : s < 64) : hvOf x s = orB (seesOf 3 x s) := by
  apply BitVec.eq_of_toNat_eq
  have e : (hvOf x s).toNat = hv x.toNat s := by
    rw [hvOf, hv, BitVec.toNat_or, linB_toNat, linB_toNat, bitB_toNat, tab_toNat (by decide), tab_toNat (by decide)]
  rw [e, hv_is _ _ hs, orB_toNat]
  have : seesOf 3 x s = rookSees (occ x.toNat) s := by
    unfold seesOf reachL
    rw [show waysL 3 = straightL from rfl]
    simp [straightL, stepL, farL, rookSees]
  rw [this]
theorem bishop_is (x : BitVec 64) (s : Nat) (hs : s < 64) : diaOf x s = orB (seesOf 4 x s) := by
  apply BitVec.eq_of_toNat_eq
  have e : (diaOf x s).toNat = dia x.toNat s := by
    rw [diaOf, dia, BitVec.toNat_or, linB_toNat, linB_toNat, bitB_toNat, tab_toNat (by decide), tab_toNat (by decide)]
  rw [e, dia_is _ _ hs, orB_toNat]
  have : seesOf 4 x s = bishopSees (occ x.toNat) s := by
    unfold seesOf reachL
    rw [show waysL 4 = slantingL from rfl]
    simp [slantingL, stepL, farL, bishopSees]
  rw [this]

theorem attacks_walk (x : BitVec 64) (n : Int) (h0 : 0 ≤ n) (h1 : n ≤ 255) (w : World) (hT : Tabs w) :
    Calls Tryd.prog 3 #[.int .u64 (tn x), .int .u8 n] w fun e w' => e = .returned (.bool true) ∧ Below w.heap.size w w' := by
  obtain ⟨s, hs, hs64⟩ : ∃ s : Nat, n % 64 = (s : Int) ∧ s < 64 := ⟨(n % 64).toNat, by omega, by omega⟩
  have hR : (tn (hvOf x s) == tn (orB (seesOf 3 x s))) = true := by rw [rook_is x s hs64]; simp
  have hB : (tn (diaOf x s) == tn (orB (seesOf 4 x s))) = true := by rw [bishop_is x s hs64]; simp
  have hm : n.tmod 64 = (s : Int) := by rw [Int.tmod_eq_emod_of_nonneg h0]; exact hs
  go_enter Tryd.func3, Tryd.ntmps3
  go_wp2_with (first
    | (go_at_call 5; refine (dia_any x s (by omega) (by omega) _ hT).mono ?_; rintro e w1 ⟨rfl, hb1⟩; have hT1 := hT.below hb1)
    | (go_at_call 6; refine (hv_any x s (by omega) (by omega) _ hT1).mono ?_; rintro e w2 ⟨rfl, hb2⟩))
  refine (biReach_any x 4 (.inr rfl) s hs64 _).mono ?_
  rintro e w3 ⟨rfl, hb3⟩
  go_wp2_with fail
  refine (biReach_any x 3 (.inl rfl) s hs64 _).mono ?_
  rintro e w4 ⟨rfl, hb4⟩
  go_wp2
  go_ret
  exact ⟨rfl, ((hb1.trans (hb2.mono hb1.size)).trans (hb3.mono (Nat.le_trans hb1.size hb2.size))).trans (hb4.mono (Nat.le_trans (Nat.le_trans hb1.size hb2.size) hb3.size))⟩
end Go.Proofs.YtofjlnillbphkaaDoor

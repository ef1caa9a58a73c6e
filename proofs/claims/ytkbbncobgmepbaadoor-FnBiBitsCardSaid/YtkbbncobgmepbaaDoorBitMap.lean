/- Squares and numbers of 64 bits: the contracts of the program's Mapping and Bits, and of impl's. -/
import Derived.Test.YtkbbncobgmepbaaDoorSetSq
namespace Go.Proofs.YtkbbncobgmepbaaDoor
open Go.ChangeShapes Go.WideShapes Go.ChangeAt Go.RowKit Go.Maps Plain
set_option maxHeartbeats 1000000
set_option linter.unusedVariables false
set_option linter.unusedSimpArgs false
attribute [local go_sem] bv_and bv_or bv_xor bv_sub bv_andc bv_orc bv_shl1

/-- Some squares as cells. -/
def ints (l : List Nat) : List Value := l.map fun (s : Nat) => Value.int .i64 (s : Int)
theorem ints_length (l : List Nat) : (ints l).length = l.length := by simp [ints]
theorem ints_append (a b : List Nat) : ints (a ++ b) = ints a ++ ints b := by simp [ints]
theorem one_int (x : Int) : ∀ u ∈ [Value.int .i64 x], u.oneCell' = true := by
  intro u hu; simp at hu; subst hu; rfl
theorem app_ints {w : World} {B : Nat} {e : TypeId} {v : Value} {l : List Nat} {t : Nat} (h : w.ownsRow B e 1 v (l.length + 1) (ints l ++ [.int .i64 (t : Int)])) : w.ownsRow B e 1 v (l ++ [t]).length (ints (l ++ [t])) := by
  simpa [ints] using h
theorem infoInt : (Tryd.prog.info? 3).map (fun i => (i.zero, i.size, i.bytes)) = some (some (.int .i64 0), 1, 8) := by kernel_rfl
/-- The squares of v below n. -/
def sqL (v : Nat → Bool) : Nat → List Nat
  | 0 => []
  | n + 1 => if v n then sqL v n ++ [n] else sqL v n
theorem sqL_len (v : Nat → Bool) : ∀ n, (sqL v n).length ≤ n
  | 0 => Nat.le_refl _
  | n + 1 => by
    have := sqL_len v n
    unfold sqL
    split
    · simp; omega
    · omega
theorem sqL_mem (v : Nat → Bool) : ∀ (n s : Nat), s ∈ sqL v n ↔ s < n ∧ v s = true
  | 0, s => by simp [sqL]
  | n + 1, s => by
    have ih := sqL_mem v n s
    unfold sqL
    by_cases hv : v n
    · rw [if_pos hv, List.mem_append, ih, List.mem_singleton]
      constructor
      · rintro (⟨a, b⟩ | rfl)
        · exact ⟨by omega, b⟩
        · exact ⟨by omega, hv⟩
      · rintro ⟨a, b⟩
        by_cases e : s = n
        · exact Or.inr e
        · exact Or.inl ⟨by omega, b⟩
    · rw [if_neg hv, ih]
      constructor
      · rintro ⟨a, b⟩; exact ⟨by omega, b⟩
      · rintro ⟨a, b⟩
        have : s ≠ n := fun e => hv (e ▸ b)
        exact ⟨by omega, b⟩
theorem gt_bit (x : BitVec 64) (k : Nat) : (0 < tn (x &&& bitB k)) = (occ x.toNat k = true) := by
  have hl : 2 ^ (63 - k) < 18446744073709551616 := Nat.pow_lt_pow_right (a := 2) (m := 63 - k) (n := 64) (by decide) (by omega)
  unfold tn occ
  rw [BitVec.toNat_and, bitB, BitVec.toNat_ofNat, Nat.mod_eq_of_lt hl, and_pow]
  have hp : 0 < 2 ^ (63 - k) := Nat.pow_pos (by decide)
  simp only [eq_iff_iff]
  split
  · simp_all
    exact Int.pow_pos (by decide)
  · simp_all
/-- Behind k rounds. -/
def upTil (v : Nat → Bool) (k : Nat) (s : Nat) : Bool := decide (s < k) && v s
theorem upTil_yes {v : Nat → Bool} {k : Nat} (h : v k = true) (s : Nat) : (if s = k then true else upTil v k s) = upTil v (k + 1) s := by
  unfold upTil
  by_cases e : s = k
  · subst e; simp [h]
  · have : (s < k + 1) = (s < k) := by simp only [eq_iff_iff]; omega
    simp [e, this]
theorem upTil_no {v : Nat → Bool} {k : Nat} (h : v k = false) (s : Nat) : upTil v k s = upTil v (k + 1) s := by
  unfold upTil
  by_cases e : s = k
  · subst e; simp [h]
  · have : (s < k + 1) = (s < k) := by simp only [eq_iff_iff]; omega
    simp [this]
def MapPost (x : BitVec 64) (w : World) (e : Ending) (w' : World) : Prop :=
  ∃ n, e = .returned (.map (some w.heap.size)) ∧ setIs w' w.heap.size n (fun s => occ x.toNat s) ∧ Below w.heap.size w w'
theorem mapping_any (x : BitVec 64) (w : World) :
    Calls Tryd.prog 46 #[.int .u64 (tn x)] w fun e w' => MapPost x w e w' := by
  have hmm := @run_makeMap Tryd.prog
  have hm0 : setIs (w.alloc (.map #[] 0)) w.heap.size 0 (upTil (fun s => occ x.toNat s) 0) := setIs_congr (setIs_made w) fun s _ => by simp [upTil]
  have hB0 : Below w.heap.size w (w.alloc (.map #[] 0)) := (Below.refl _ _).alloc (Nat.le_refl _) _
  go_enter Tryd.func46, Tryd.ntmps46
  go_wp2
  generalize w.alloc (.map #[] 0) = w2 at *
  go_loopw [6] (fun i wr => ∃ k n : Nat, k ≤ 64 ∧ n ≤ k ∧ i = .int .i64 k ∧ setIs wr w.heap.size n (upTil (fun s => occ x.toNat s) k) ∧ Below w.heap.size w wr) (fun i _ => 64 - (intOf i).toNat)
  case atStart => exact ⟨0, 0, by omega, by omega, rfl, hm0, hB0⟩
  case round =>
    clear hm0 hB0
    obtain ⟨k, n, hk, hn, rfl, hm, hb⟩ := hrel
    by_cases hlt : k < 64
    · have e1 : IntKind.i8.wrap (k : Int) = (k : Int) := IntWalk.i8_in _ (by omega)
      have hbb := Lib.hid (bbForSquare_any (k : Int) (by omega) (by omega) wr)
      rw [Int.toNat_natCast] at hbb
      have hgt := Lib.hid (gt_bit x k)
      generalize hbv : bitB k = bk at *
      clear hbv
      by_cases hv : occ x.toNat k = true
      · have hlt0 : 0 < tn (x &&& bk) := by rw [hgt.out]; exact hv
        have hm' := Lib.hid (fun (w' : World) (h : setIs w' w.heap.size (n + 1) _) => setIs_congr h (fun s _ => upTil_yes (v := fun s => occ x.toNat s) (k := k) hv s))
        clear hv hgt
        go_wp2_with (first
          | (go_at_call 59; refine hbb.out.mono ?_; rintro e w' ⟨rfl, rfl⟩)
          | (at_mapUpdate; refine wpList_storeB _ rfl _ _ _ rfl w.heap.size n _ rfl hm (by omega) k hlt (by simp [go_sem, e1]) rfl ?_; intro w1 hm1 hgrow1))
        exact ⟨⟨k + 1, n + 1, by omega, by omega, by go_num, hm'.out _ hm1, hb.grown hgrow1 hb.size (by intro r hr; cases hr; exact Nat.le_refl _)⟩, by simp [intOf]; omega⟩
      · have hlt0 : ¬ 0 < tn (x &&& bk) := by rw [hgt.out]; exact hv
        have hm' := setIs_congr hm (fun s _ => upTil_no (v := fun s => occ x.toNat s) (k := k) (by simpa using hv) s)
        clear hv hgt
        go_wp2_with (go_at_call 59; refine hbb.out.mono ?_; rintro e w' ⟨rfl, rfl⟩)
        exact ⟨⟨k + 1, n, by omega, by omega, by go_num, hm', hb⟩, by simp [intOf]; omega⟩
    · obtain rfl : k = 64 := by omega
      have hm' := setIs_congr hm (u := fun s => occ x.toNat s) (fun s hs => by simp [upTil, hs])
      go_wp2
      go_ret
      exact ⟨n, rfl, hm', hb⟩
theorem doorMapping_any (x : BitVec 64) (w : World) :
    Calls Tryd.prog 36 #[.int .u64 (tn x)] w fun e w' => MapPost x w e w' := by
  go_enter Tryd.func36, Tryd.ntmps36
  go_wp2_with (go_at_call 46; refine (mapping_any x _).mono ?_; rintro e w' ⟨n, rfl, hm, hb⟩)
  go_ret
  exact ⟨n, rfl, hm, hb⟩
def ListPost (l : List Nat) (w : World) (e : Ending) (w' : World) : Prop :=
  ∃ v B, e = .returned v ∧ w'.ownsRow B 3 1 v l.length (ints l) ∧ w.heap.size ≤ B ∧ Below w.heap.size w w'
set_option maxRecDepth 100000 in
theorem implMapping_any (x : BitVec 64) (w : World) :
    Calls Tryd.prog 16 #[.int .u64 (tn x)] w fun e w' => ListPost (sqL (fun s => occ x.toNat s) 64) w e w' := by
  go_enter Tryd.func16, Tryd.ntmps16
  go_wp2_with (go_at_call 36; refine (doorMapping_any x _).mono ?_; rintro e w1 ⟨nn, rfl, hm, hbm⟩)
  have hmlt := setIs_lt hm
  obtain ⟨v, hvv⟩ : ∃ v, v = (fun s => occ x.toNat s) := ⟨_, rfl⟩
  rw [← hvv] at hm
  replace hvv := Lib.hid hvv
  go_loopw [4, 5] (fun out i wr => ∃ k : Nat, k ≤ 64 ∧ i = .int .i64 k ∧ wr.ownsRow w1.heap.size 3 1 out (sqL v k).length (ints (sqL v k)) ∧ Below w1.heap.size w1 wr) (fun _ i _ => 64 - (intOf i).toNat)
  case atStart => exact ⟨0, Nat.zero_le _, rfl, World.ownsRow_nil _ _ _ _, Below.refl _ _⟩
  case round =>
    obtain ⟨k, hk, rfl, hout, hbo⟩ := hrel
    by_cases hlt : k < 64
    · have e1 : IntKind.i8.wrap (k : Int) = (k : Int) := IntWalk.i8_in _ (by omega)
      have hmr := setIs_below hm hbo hmlt
      have hle := sqL_len v k
      have hs1 : sqL v (k + 1) = if v k then sqL v k ++ [k] else sqL v k := rfl
      by_cases hv : v k = true
      · have hs2 := Lib.hid (hs1.trans (if_pos hv))
        clear hs1
        generalize sqL v k = l at *
        go_wp2_with (first
          | (at_lookup; refine wpList_lookupB _ rfl _ _ rfl w.heap.size nn v rfl hmr k hlt (by simp [go_sem, e1]) true hv ?_)
          | (at_builtin; refine wpList_app rfl _ _ 34 rfl w1.heap.size 3 (.int .i64 0) 1 8 Tryd.underlying34 infoInt rfl (by decide) _ _ _ rfl hout hbo (Nat.le_refl _) [.int .i64 (k : Int)] (one_int _) rfl _ rfl rfl (by omega) (by decide) ?_; intro v' w2 hown2 hbo3 hnil; have hown3 := Lib.hid (app_ints hown2); clear hown2 hnil hout hbo))
        exact ⟨⟨k + 1, by omega, by go_num, by rw [hs2.out]; exact hown3.out, hbo3⟩, by simp [intOf]; omega⟩
      · have hv' : v k = false := by simpa using hv
        have hs2 := Lib.hid (hs1.trans (if_neg hv))
        clear hs1 hv
        generalize sqL v k = l at *
        go_wp2_with (at_lookup; refine wpList_lookupB _ rfl _ _ rfl w.heap.size nn v rfl hmr k hlt (by simp [go_sem, e1]) false hv' ?_)
        exact ⟨⟨k + 1, by omega, by go_num, by rw [hs2.out]; exact hout, hbo⟩, by simp [intOf]; omega⟩
    · obtain rfl : k = 64 := by omega
      go_wp2
      go_ret
      exact ⟨_, w1.heap.size, rfl, by rw [← hvv.out]; exact hout, hbm.size, hbm.trans (hbo.mono hbm.size)⟩
theorem doorBits_any (bm n : Nat) (v : Nat → Bool) (w : World) (hm : setIs w bm n v) :
    Calls Tryd.prog 35 #[.map (some bm)] w fun e w' => e = .returned (.int .u64 (tn (numB v 64))) ∧ w = w' := by
  go_enter Tryd.func35, Tryd.ntmps35
  go_wp2_with (go_at_call 45; refine (newBitboard_any bm n v _ hm).mono ?_; rintro e w' ⟨rfl, rfl⟩)
  go_ret
  exact ⟨rfl, rfl⟩
end Go.Proofs.YtkbbncobgmepbaaDoor

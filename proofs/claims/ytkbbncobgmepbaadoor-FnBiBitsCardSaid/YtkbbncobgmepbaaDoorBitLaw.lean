/- The law FnBiBits: its walk. -/
import Derived.Test.YtkbbncobgmepbaaDoorBitIn
import Derived.Test.YtkbbncobgmepbaaDoorBitFmt
import Derived.Test.YtkbbncobgmepbaaDoorBitRev
import Derived.Deep.RegionWith
namespace Go.Proofs.YtkbbncobgmepbaaDoor
open Go.ChangeShapes Go.WideShapes Go.ChangeAt Go.RowKit Go.PlainAid Plain
set_option maxHeartbeats 4000000
set_option linter.unusedVariables false
set_option linter.unusedSimpArgs false
attribute [local go_sem] tx_list tx_size

/-- The digits of the first k squares. -/
def texL (x : BitVec 64) : Nat → List UInt8
  | 0 => []
  | k + 1 => texL x k ++ [digU x (63 - k)]
theorem texL_digs (x : BitVec 64) : ∀ k, k ≤ 64 → texL x k ++ digs x (64 - k) = digs x 64
  | 0, _ => rfl
  | k + 1, h => by
    have ih := texL_digs x k (by omega)
    rw [show 64 - k = (63 - k) + 1 by omega, digs] at ih
    rw [show 64 - (k + 1) = 63 - k by omega, texL, List.append_assoc, ← ih]
    rfl
theorem texL_all (x : BitVec 64) : texL x 64 = digs x 64 := by
  have := texL_digs x 64 (by omega)
  simpa [digs] using this
theorem texL_len (x : BitVec 64) : ∀ k, (texL x k).length = k
  | 0 => rfl
  | k + 1 => by simp [texL, texL_len x k]
/-- The number with the first k squares turned. -/
def turB (x : BitVec 64) : Nat → BitVec 64
  | 0 => 0#64
  | k + 1 => if occ x.toNat k then turB x k ||| BitVec.ofNat 64 (2 ^ k) else turB x k
theorem turB_bit (x : BitVec 64) : ∀ k, k ≤ 64 → ∀ i, i < 64 → (turB x k).getLsbD i = (decide (i < k) && x.getLsbD (63 - i))
  | 0, _, i, _ => by simp [turB]
  | k + 1, h, i, hi => by
    have ih := turB_bit x k (by omega) i hi
    have hp : (BitVec.ofNat 64 (2 ^ k)).getLsbD i = decide (i = k) := by
      rw [BitVec.getLsbD, BitVec.toNat_ofNat, Nat.mod_eq_of_lt (Nat.pow_lt_pow_right (by decide) (by omega)), Nat.testBit_two_pow]
      simp only [eq_comm]
    unfold turB
    by_cases e : i = k
    · subst e
      have ho : occ x.toNat i = x.getLsbD (63 - i) := rfl
      by_cases hb : occ x.toNat i = true
      · rw [if_pos hb, BitVec.getLsbD_or, hp, ← ho, hb]; simp
      · rw [if_neg hb, ih, ← ho]; simp [hb]
    · have e2 : decide (i < k + 1) = decide (i < k) := by simp only [decide_eq_decide]; omega
      rw [e2, ← ih]
      split
      · rw [BitVec.getLsbD_or, hp]; simp [e]
      · rfl
theorem turB_all (x : BitVec 64) : turB x 64 = revB x := by
  apply BitVec.eq_of_getLsbD_eq
  intro i hi
  rw [turB_bit x 64 (by omega) i hi, revB_bit x i hi]
  simp [hi]
theorem or_pow (x : BitVec 64) (k : Nat) : bits .or .u64 (tn x) (IntKind.u64.wrap (2 ^ k)) = tn (x ||| BitVec.ofNat 64 (2 ^ k)) := by
  have e : IntKind.u64.wrap (2 ^ k) = tn (BitVec.ofNat 64 (2 ^ k)) := by
    unfold tn
    rw [IntKind.wrap_u64, BitVec.toNat_ofNat]
    simp
  rw [e, bv_or]
theorem sq_num (x : BitVec 64) : numB (fun s => decide (s ∈ sqL (fun s => occ x.toNat s) 64)) 64 = x :=
  numB_occ x _ fun s hs => by
    by_cases h : occ x.toNat s = true
    · rw [h]; exact decide_eq_true ((sqL_mem _ _ _).2 ⟨hs, h⟩)
    · rw [decide_eq_false (fun hm => h ((sqL_mem _ _ _).1 hm).2)]
      simpa using h
/-- A slice of squares, for reading. -/
def Rd (w : World) (l : List Nat) (v : Value) : Prop :=
  ∃ a cap g, v = .slice a l.length cap ∧ (0 < l.length → a = some ⟨g, 0, none⟩) ∧ g < w.heap.size ∧ ∀ k, k < l.length → w.cell? ⟨g, k, none⟩ = some (.int .i64 (l.getD k 0 : Nat))
theorem rd_of {w : World} {B : Nat} {v : Value} {l : List Nat} (h : w.ownsRow B 3 1 v l.length (ints l)) (hw : 0 < w.heap.size) : Rd w l v := by
  have hc : ∀ g cap, v = .slice (some ⟨g, 0, none⟩) l.length cap → ∀ k, k < l.length → w.cell? ⟨g, k, none⟩ = some (.int .i64 (l.getD k 0 : Nat)) := by
    rintro g cap rfl k hk
    rw [h.cellAt k (by omega)]
    simp [ints, hk]
  rcases h.2 with ⟨rfl, hn⟩ | ⟨g, cap, cur, rfl, hB, hcur, hle, hcap, hsz, htake⟩
  · exact ⟨none, 0, 0, by rw [hn], fun h => by omega, hw, fun k hk => by omega⟩
  · exact ⟨_, cap, g, rfl, fun _ => rfl, lt_of_block hcur, hc g cap rfl⟩
theorem Rd.below {w w' : World} {l : List Nat} {v : Value} (h : Rd w l v) (hb : Below w.heap.size w w') : Rd w' l v := by
  obtain ⟨a, cap, g, h1, h2, h3, h4⟩ := h
  exact ⟨a, cap, g, h1, h2, Nat.lt_of_lt_of_le h3 hb.size, fun k hk => by rw [hb.cell (show (⟨g, k, none⟩ : Addr).block < w.heap.size from h3)]; exact h4 k hk⟩
set_option maxRecDepth 100000 in
theorem law_any (x : BitVec 64) (w : World) (hT : TabZ w) :
    Calls Tryd.prog 5 #[.int .u64 (tn x)] w fun e w' => e = .returned (.bool true) ∧ Below w.heap.size w w' := by
  obtain ⟨v, hvv⟩ : ∃ v, v = (fun s => occ x.toNat s) := ⟨_, rfl⟩
  have hvk : ∀ k, occ x.toNat k = v k := fun k => by rw [hvv]
  have hsq := sq_num x
  rw [← hvv] at hsq
  replace hsq := Lib.hid hsq
  replace hvv := Lib.hid hvv
  have hw0 : 0 < w.heap.size := by have := hT.1; omega
  go_enter Tryd.func5, Tryd.ntmps5
  go_wp2
  go_loopw [3, 4, 5, 6] (fun out tv uv i wr => ∃ k : Nat, k ≤ 64 ∧ i = .int .i64 k ∧ wr.ownsRow w.heap.size 3 1 out (sqL v k).length (ints (sqL v k)) ∧ tv = .string (tx (texL x k)) ∧ uv = .int .u64 (tn (turB x k)) ∧ Below w.heap.size w wr) (fun _ _ _ i _ => 64 - (intOf i).toNat)
  case atStart => exact ⟨0, Nat.zero_le _, rfl, World.ownsRow_nil _ _ _ _, rfl, rfl, Below.refl _ _⟩
  case round =>
    obtain ⟨k, hk, rfl, hout, rfl, rfl, hbo⟩ := hrel
    by_cases hlt : k < 64
    · have hle := sqL_len v k
      have hs1 : sqL v (k + 1) = if v k then sqL v k ++ [k] else sqL v k := rfl
      have ht1 : texL x (k + 1) = texL x k ++ [digU x (63 - k)] := rfl
      have hu1 : turB x (k + 1) = if v k then turB x k ||| BitVec.ofNat 64 (2 ^ k) else turB x k := by rw [turB, hvk k]
      have hdg : digU x (63 - k) = if v k then 49 else 48 := by rw [← hvk k]; rfl
      have hop := Lib.hid (or_pow (turB x k) k)
      have hon := Lib.hid (biOn_any x (k : Int) (by omega) (by omega))
      cases hv : v k
      · have hon2 : Hid (∀ w, Calls Tryd.prog 14 #[.int .u64 (tn x), .int .i64 (k : Int)] w fun e w' => e = .returned (.bool false) ∧ w = w') := Lib.hid fun w => by
          have := hon.out w
          rw [Int.toNat_natCast, hvk k, hv] at this
          exact this
        rw [hv] at hs1 hu1 hdg
        rw [hdg] at ht1
        replace hs1 := Lib.hid (show sqL v (k + 1) = sqL v k from hs1)
        replace hu1 := Lib.hid (show turB x (k + 1) = turB x k from hu1)
        replace ht1 := Lib.hid (show texL x (k + 1) = texL x k ++ [48] from ht1)
        have htl := texL_len x k
        clear hdg hon hv hT hvk hsq hvv
        generalize sqL v k = l at *
        generalize texL x k = T at *
        generalize turB x k = U at *
        go_wp2_with (first
          | (at_builtin; refine wpList_app rfl _ _ 34 rfl w.heap.size 3 (.int .i64 0) 1 8 Tryd.underlying34 infoInt rfl (by decide) _ _ _ rfl hout hbo (Nat.le_refl _) [.int .i64 (k : Int)] (one_int _) rfl _ rfl rfl (by omega) (by decide) ?_; intro v' w2 hown2 hbo3 hnil; have hown3 := Lib.hid (app_ints hown2); clear hown2 hnil hout hbo)
          | (go_at_call 14; refine (hon2.out _).mono ?_; rintro e w' ⟨rfl, rfl⟩))
        exact ⟨⟨k + 1, by omega, by go_num, by rw [hs1.out]; exact hout, by rw [ht1.out, ← tx_app]; rfl, by rw [hu1.out], hbo⟩, by simp [intOf]; omega⟩
      · have hon2 : Hid (∀ w, Calls Tryd.prog 14 #[.int .u64 (tn x), .int .i64 (k : Int)] w fun e w' => e = .returned (.bool true) ∧ w = w') := Lib.hid fun w => by
          have := hon.out w
          rw [Int.toNat_natCast, hvk k, hv] at this
          exact this
        rw [hv] at hs1 hu1 hdg
        rw [hdg] at ht1
        replace hs1 := Lib.hid (show sqL v (k + 1) = sqL v k ++ [k] from hs1)
        replace hu1 := Lib.hid (show turB x (k + 1) = turB x k ||| BitVec.ofNat 64 (2 ^ k) from hu1)
        replace ht1 := Lib.hid (show texL x (k + 1) = texL x k ++ [49] from ht1)
        have htl := texL_len x k
        clear hdg hon hv hT hvk hsq hvv
        generalize sqL v k = l at *
        generalize texL x k = T at *
        generalize turB x k = U at *
        go_wp2_with (first
          | (at_builtin; refine wpList_app rfl _ _ 34 rfl w.heap.size 3 (.int .i64 0) 1 8 Tryd.underlying34 infoInt rfl (by decide) _ _ _ rfl hout hbo (Nat.le_refl _) [.int .i64 (k : Int)] (one_int _) rfl _ rfl rfl (by omega) (by decide) ?_; intro v' w2 hown2 hbo3 hnil; have hown3 := Lib.hid (app_ints hown2); clear hown2 hnil hout hbo)
          | (go_at_call 14; refine (hon2.out _).mono ?_; rintro e w' ⟨rfl, rfl⟩))
        exact ⟨⟨k + 1, by omega, by go_num, by rw [hs1.out]; exact hown3.out, by rw [ht1.out, ← tx_app]; rfl, by rw [hu1.out, ← hop.out], hbo3⟩, by simp [intOf]; omega⟩
    · obtain rfl : k = 64 := by omega
      have hbits : Hid (Calls Tryd.prog 15 #[u3] wr fun e w' => e = .returned (.tuple #[.int .u64 (tn x), .bool true]) ∧ Below wr.heap.size wr w') := Lib.hid (by
        have := bits_any _ _ wr hout (fun s hs => ((sqL_mem _ _ _).1 hs).1) (sqL_len v 64)
        rw [hsq.out] at this
        exact this)
      have hmap : Hid (∀ w', Calls Tryd.prog 16 #[.int .u64 (tn x)] w' fun e w'' => ListPost (sqL v 64) w' e w'') := Lib.hid (fun w' => by
        have := implMapping_any x w'
        rw [← hvv.out] at this
        exact this)
      have htx : Hid (∀ w', Below w.heap.size w w' → Calls Tryd.prog 17 #[.int .u64 (tn x)] w' fun e w'' => e = .returned (.string (tx (digs x 64))) ∧ Below w'.heap.size w' w'') := Lib.hid (fun w' hb => implText_any x w' (hT.below hb))
      have hrev := Lib.hid (implRev_any x)
      have hll := sqL_len v 64
      have ht := texL_all x
      have hu := turB_all x
      rw [ht, hu]
      have hrd := rd_of hout (by have := hbo.size; omega)
      clear hout hsq hvv hT hvk ht hu hlt hk
      generalize sqL v 64 = l at *
      generalize digs x 64 = T at *
      generalize revB x = R at *
      obtain ⟨a1, c1, g1, rfl, ha1, hg1, hc1⟩ := hrd
      replace hc1 := Lib.hid hc1
      go_wp2_with (first
        | (go_at_call 18; refine (hrev.out _).mono ?_; rintro e w5 ⟨rfl, rfl⟩)
        | (go_at_call 17; refine (htx.out _ (hbo.trans ((hb2.trans (hb3.mono hb2.size)).mono hbo.size))).mono ?_; rintro e w4 ⟨rfl, hb4⟩)
        | (go_at_call 16; refine (hmap.out _).mono ?_; rintro e w3 ⟨out2, B2, rfl, hout2, hB2, hb3⟩; obtain ⟨a2, c2, g2, rfl, ha2, hg2, hc2⟩ := rd_of hout2 (by have := hb3.size; omega); replace hc2 := Lib.hid hc2; clear hout2)
        | (go_at_call 15; refine hbits.out.mono ?_; rintro e w2 ⟨rfl, hb2⟩; have hwl : 0 < w2.heap.size := by have := hb2.size; omega))
      have hb4w : Below w.heap.size w w4 := hbo.trans ((hb2.trans ((hb3.trans (hb4.mono hb3.size)).mono hb2.size)).mono hbo.size)
      have H1 := Lib.hid (fun (v : World) (hv : Below w4.heap.size w4 v) (j : Nat) (hj : j < l.length) => show v.cell? ⟨g1, j, none⟩ = some (.int .i64 (l.getD j 0 : Nat)) from by
        have s2 := hb2.size
        have s3 := hb3.size
        have s4 := hb4.size
        rw [hv.cell (show g1 < w4.heap.size by omega), hb4.cell (show g1 < w3.heap.size by omega), hb3.cell (show g1 < w2.heap.size by omega), hb2.cell (show g1 < wr.heap.size by omega)]
        exact hc1.out j hj)
      have H2 := Lib.hid (fun (v : World) (hv : Below w4.heap.size w4 v) (j : Nat) (hj : j < l.length) => show v.cell? ⟨g2, j, none⟩ = some (.int .i64 (l.getD j 0 : Nat)) from by
        have s4 := hb4.size
        rw [hv.cell (show g2 < w4.heap.size by omega), hb4.cell (show g2 < w3.heap.size by omega)]
        exact hc2.out j hj)
      replace ha1 := Lib.hid ha1
      replace ha2 := Lib.hid ha2
      clear hc1 hc2 hg1 hg2 hb2 hb3 hb4 hB2 hwl hmap htx hrev hbits hbo
      go_loopw [11] (fun i v => ∃ j : Nat, j ≤ l.length ∧ i = .int .i64 j ∧ Below w4.heap.size w4 v) (fun i _ => l.length - (intOf i).toNat)
      case atStart => exact ⟨0, Nat.zero_le _, rfl, Below.refl _ _⟩
      case round =>
        obtain ⟨j, hj, rfl, hbv⟩ := hrel
        by_cases hjl : j < l.length
        · have k1 := H1.out _ hbv j hjl
          have k2 := H2.out _ hbv j hjl
          obtain rfl := ha1.out (by omega)
          obtain rfl := ha2.out (by omega)
          generalize l.getD j 0 = y at *
          have hwb := Lib.hid (fun n => show Below w4.heap.size w4 (wr.drewN n) from hbv.trans ⟨rfl, rfl, rfl, Nat.le_refl _, fun _ _ => rfl⟩)
          go_wp2
          go_quiet (fail)
          go_wp2
          exact ⟨⟨j + 1, by omega, by go_num, hwb.out _⟩, by simp [intOf]; omega⟩
        · obtain rfl : j = l.length := by omega
          clear H1 H2 ha1 ha2
          go_wp2
          go_loopw [12] (fun i v => ∃ k : Nat, k ≤ 64 ∧ i = .int .i64 k ∧ Below w4.heap.size w4 v) (fun i _ => 64 - (intOf i).toNat)
          case atStart => exact ⟨0, Nat.zero_le _, rfl, hbv⟩
          case round =>
            clear hbv
            obtain ⟨k, hk, rfl, hbv⟩ := hrel
            by_cases hk64 : k < 64
            · have hon := Lib.hid (biOn_any x (k : Int) (by omega) (by omega))
              have hoc := Lib.hid (implOcc_any x (k : Int) (by omega) (by omega))
              rw [Int.toNat_natCast] at hon hoc
              generalize occ x.toNat k = oc at *
              go_wp2_with (first
                | (go_at_call 14; refine (hon.out _).mono ?_; rintro e w6 ⟨rfl, rfl⟩)
                | (go_at_call 19; refine (hoc.out _).mono ?_; rintro e w5 ⟨rfl, hb5⟩; have hb6 := hbv.trans (hb5.mono hbv.size)))
              exact ⟨⟨k + 1, by omega, by go_num, hb6⟩, by simp [intOf]; omega⟩
            · obtain rfl : k = 64 := by omega
              go_wp2
              go_ret
              exact ⟨rfl, hb4w.trans (hbv.mono hb4w.size)⟩
end Go.Proofs.YtkbbncobgmepbaaDoor

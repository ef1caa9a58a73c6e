/- A number's digits of base 2: the contracts of strconv.FormatUint at base 2, strings.Repeat at "0", and of the program's text of 64 digits. -/
import Derived.Test.YtkbbncobgmepbaaDoorTx
import Derived.Test.YtkbbncobgmepbaaDoorBiOn
import Derived.Test.YtkbbncobgmepbaaDoorLayR
import Derived.Shelf.Strings.Repeat
import Derived.Laws.IdiomStrings
import Derived.PlainAid
namespace Go.Proofs.YtkbbncobgmepbaaDoor
open Go.ChangeShapes Go.WideShapes Go.ChangeAt Go.RowKit Go.PlainAid Plain
set_option maxHeartbeats 1000000
set_option linter.unusedVariables false
set_option linter.unusedSimpArgs false
attribute [local go_sem] tx_list tx_size bv_and bv_or bv_andc bv_orc bv_shl1 bv_shr1

/-- What the walks ask of the table of bits.TrailingZeros64. -/
def TabZ (w : World) : Prop := (7) < w.heap.size ∧ w.cell? ⟨7, 1, none⟩ = some (.int .u8 1)
theorem TabZ.below {w w' : World} (h : TabZ w) (hb : Below w.heap.size w w') : TabZ w' :=
  ⟨Nat.lt_of_lt_of_le h.1 hb.size, by rw [hb.cell h.1]; exact h.2⟩
theorem pow2_any (w : World) : Calls Tryd.prog 96 #[.int .i64 2] w fun e w' => e = .returned (.bool true) ∧ w' = w := by
  have hb : bits .and .i64 2 1 = 0 := by kernel_rfl
  go_enter Tryd.func96, Tryd.ntmps96
  go_wp2
  go_ret
  exact ⟨rfl, rfl⟩
theorem zeros64_any (w : World) (hT : TabZ w) : Calls Tryd.prog 99 #[.int .u64 2] w fun e w' => e = .returned (.int .i64 1) ∧ w' = w := by
  have hc := hT.2
  have hb : bits .and .u64 2 (IntKind.u64.wrap (-2)) = 2 := by kernel_rfl
  have hw : IntKind.u64.wrap (2 * 285870213051353865) = 571740426102707730 := by kernel_rfl
  go_enter Tryd.func99, Tryd.ntmps99
  go_wp2
  go_ret
  exact ⟨rfl, rfl⟩
theorem zeros_any (w : World) (hT : TabZ w) : Calls Tryd.prog 97 #[.int .u64 2] w fun e w' => e = .returned (.int .i64 1) ∧ w' = w := by
  go_enter Tryd.func97, Tryd.ntmps97
  go_wp2_with (go_at_call 99; refine (zeros64_any _ hT).mono ?_; rintro e w' ⟨rfl, rfl⟩)
  go_ret
  exact ⟨rfl, rfl⟩

/-- The digit of the bit j. -/
def digU (x : BitVec 64) (j : Nat) : UInt8 := if x.getLsbD j then 49 else 48
def digI (x : BitVec 64) (j : Nat) : Int := if x.getLsbD j then 49 else 48
theorem digU_toNat (x : BitVec 64) (j : Nat) : ((digU x j).toNat : Int) = digI x j := by unfold digU digI; split <;> rfl
theorem low_bit (x : BitVec 64) (q : Nat) : tn ((x >>> q) &&& BitVec.ofNat 64 1) = digI x q - 48 := by
  unfold tn digI
  have h : ((x >>> q) &&& BitVec.ofNat 64 1).toNat = if x.getLsbD q then 1 else 0 := by
    rw [BitVec.toNat_and, BitVec.toNat_ushiftRight]
    show (x.toNat >>> q) &&& 1 = _
    rw [BitVec.getLsbD, Nat.and_one_is_mod, Nat.testBit, Nat.and_comm, Nat.and_one_is_mod]
    by_cases hb : x.toNat >>> q % 2 = 0
    · simp [hb]
    · have : x.toNat >>> q % 2 = 1 := by omega
      simp [this]
  rw [h]
  split <;> rfl
/-- The cells of the buffer behind q digits. -/
def bufF (x : BitVec 64) (q : Nat) (j : Nat) : Value := if 65 - q ≤ j then .int .u8 (digI x (64 - j)) else .int .u8 0
theorem bufF_step (x : BitVec 64) (q : Nat) (hq : q < 65) (j : Nat) (hj : j < 65) : (if j = 64 - q then .int .u8 (digI x q) else bufF x q j) = bufF x (q + 1) j := by
  unfold bufF
  by_cases e : j = 64 - q
  · rw [if_pos e, if_pos (by omega), show 64 - j = q by omega]
  · rw [if_neg e]
    by_cases h2 : 65 - q ≤ j
    · rw [if_pos h2, if_pos (by omega)]
    · rw [if_neg h2, if_neg (by omega)]
/-- The digits of x from the bit q - 1 down. -/
def digs (x : BitVec 64) : Nat → List UInt8
  | 0 => []
  | q + 1 => digU x q :: digs x q
theorem digs_len (x : BitVec 64) : ∀ q, (digs x q).length = q
  | 0 => rfl
  | q + 1 => by simp [digs, digs_len x q]
theorem digs_get (x : BitVec 64) : ∀ (q j : Nat) (h : j < q), (digs x q)[j]? = some (digU x (q - 1 - j))
  | q + 1, 0, _ => by simp [digs]
  | q + 1, j + 1, h => by
    have := digs_get x q j (by omega)
    rw [digs, List.getElem?_cons_succ, this]
    congr 2
    omega
/-- How many digits a number has. -/
def FmtPost (x : BitVec 64) (w : World) (e : Ending) (w' : World) (f : ByteArray → Ending) : Prop :=
  ∃ q, q < 64 ∧ x.toNat / 2 ^ q < 2 ∧ e = f (tx (digs x (q + 1))) ∧ Below w.heap.size w w'
theorem slice_any (b p : Nat) (hp : p ≤ 64) (W : World) : (Instr.sliceAt 136 (.pointer (some ⟨b, 0, none⟩)) (some (.int .i64 (p : Int))) none none).run Tryd.prog W = .ok (.slice (some ⟨b, p, none⟩) (65 - p) (65 - p)) W := by
  have hl : Tryd.prog.arrayLen 136 = 65 := by kernel_rfl
  have he : Tryd.prog.elem 136 = 5 := by kernel_rfl
  have ht : Tryd.prog.underlying 136 = some (.array (Tryd.prog.arrayLen 136) (Tryd.prog.elem 136)) := by kernel_rfl
  have hs : (sizeOf 5).run Tryd.prog W = .ok 1 W := by kernel_rfl
  rw [run_sliceAt_array_l W 136 _ ht .i64 (p : Int) (by omega) (by rw [hl]; omega), he, hs]
  simp only [Result.andThen, hl, slicedAt, Int.toNat_natCast]
  rw [if_neg (by omega)]
  unfold Addr.add
  split <;> simp_all
theorem conv_any (x : BitVec 64) (b k p : Nat) (hkp : k + p = 64) (W : World) (h : W.rowIs b 136 65 (bufF x (k + 1))) :
    (convert 79 9 (.slice (some ⟨b, p, none⟩) (65 - p) (65 - p))).run Tryd.prog W = .ok (.string (tx (digs x (k + 1)))) W := by
  have hl : (digs x (k + 1)).length = 65 - p := by rw [digs_len]; omega
  have := run_convert_bytes_back (P := Tryd.prog) W 79 9 5 ⟨b, p, none⟩ (65 - p) (digs x (k + 1)) Tryd.underlying79 Tryd.underlying5 Tryd.underlying9 (fun j hj => by
    rw [digs_len] at hj
    have hg := digs_get x (k + 1) j hj
    have hg2 : (digs x (k + 1))[j]'(by rw [digs_len]; exact hj) = digU x (k - j) := by
      rw [List.getElem?_eq_getElem (by rw [digs_len]; exact hj)] at hg
      exact Option.some.inj hg
    have ha : (⟨b, p, none⟩ : Addr).add j = ⟨b, p + j, none⟩ := by unfold Addr.add; split <;> simp_all
    rw [ha, h.cell (by omega), hg2, digU_toNat]
    unfold bufF
    rw [if_pos (by omega), show 64 - (p + j) = k - j by omega])
  rw [hl] at this
  exact this
set_option maxRecDepth 100000 in
theorem formatBits_any (x : BitVec 64) (w : World) (hT : TabZ w) :
    Calls Tryd.prog 86 #[.slice none 0 0, .int .u64 (tn x), .int .i64 2, .bool false, .bool false] w fun e w' => FmtPost x w e w' (fun s => .returned (.tuple #[.slice none 0 0, .string s])) := by
  have hrow := World.rowIs_alloc w Tryd.zeroCells136 136 (bufF x 0) (fun i hi => by
    have h65 : i < 65 := hi
    have h : Tryd.zeroCells136 = Array.replicate 65 (.int .u8 0) := by rfl
    rw [h, Array.getElem?_replicate, if_pos h65, bufF, if_neg (by omega)])
  have hB := (Below.refl w.heap.size w).alloc (Nat.le_refl _) (.cells Tryd.zeroCells136 136)
  have hT1 := hT.below hB
  go_enter Tryd.func86, Tryd.ntmps86
  go_wp2_with (first
    | (go_at_call 96; refine (pow2_any _).mono ?_; rintro e w' ⟨rfl, rfl⟩)
    | (go_at_call 97; refine (zeros_any _ hT1).mono ?_; rintro e w' ⟨rfl, rfl⟩))
  have hzw : w.alloc (.cells Tryd.zeroCells136 136) = w.alloc (.cells Tryd.zeroCells136 136) := rfl
  generalize w.alloc (.cells Tryd.zeroCells136 136) = w2 at *
  clear hzw hT hT1
  go_loopw [1, 13] (fun u i wr => ∃ k p : Nat, k + p = 64 ∧ 1 ≤ p ∧ u = .int .u64 (tn (x >>> k)) ∧ i = .int .i64 ((p : Int) + 1) ∧ wr.rowIs w.heap.size 136 65 (bufF x k) ∧ Below w.heap.size w wr) (fun _ i _ => (intOf i).toNat)
  case atStart => exact ⟨0, 64, rfl, by omega, by rw [BitVec.ushiftRight_zero], rfl, hrow, hB⟩
  case round =>
    clear hrow hB
    obtain ⟨k, p, hkp, hp, rfl, rfl, hr, hb⟩ := hrel
    have hlow := low_bit x k
    have hpx : w.heap.size < wr.heap.size := hr.lt
    have hc := hr.cell (i := p) (by omega)
    have hf := hr.frozen p
    have hst := Lib.hid (bufF_step x k (by omega))
    rw [show 64 - k = p by omega] at hst
    have hsh := Lib.hid (show (x >>> k) >>> 1 = x >>> (k + 1) from (BitVec.shiftRight_add x k 1).symm)
    by_cases h2 : 2 ≤ tn (x >>> k)
    · have hk63 : k < 63 := by
        rcases Nat.lt_or_ge k 63 with h | h
        · exact h
        · obtain rfl : k = 63 := by omega
          have := x.isLt
          unfold tn at h2
          rw [BitVec.toNat_ushiftRight, Nat.shiftRight_eq_div_pow] at h2
          omega
      have hnext := Lib.hid (fun (w' : World) (v : Value) (hv : v = .int .u8 (digI x k)) (h : w' = wr.setCell ⟨w.heap.size, p, none⟩ v) => show w'.rowIs w.heap.size 136 65 (bufF x (k + 1)) from by
        subst h hv; exact (hr.set p _).congr (fun j hj => hst.out j hj))
      clear hst hr
      by_cases hbit : x.getLsbD k = true
      · have hd : digI x k = 49 := by unfold digI; rw [if_pos hbit]
        rw [hd] at hlow
        replace hlow : tn (x >>> k &&& 1#64) = 1 := hlow
        replace hd := Lib.hid hd
        clear hbit
        generalize x >>> k = y at *
        go_wp2
        exact ⟨⟨k + 1, p - 1, by omega, by omega, by rw [hsh.out], by go_num, hnext.out _ _ (by rw [hd.out]; rfl) rfl, hb.setCell (Nat.le_refl _) _⟩, by simp [intOf]⟩
      · have hd : digI x k = 48 := by unfold digI; rw [if_neg hbit]
        rw [hd] at hlow
        replace hlow : tn (x >>> k &&& 1#64) = 0 := hlow
        replace hd := Lib.hid hd
        clear hbit
        generalize x >>> k = y at *
        go_wp2
        exact ⟨⟨k + 1, p - 1, by omega, by omega, by rw [hsh.out], by go_num, hnext.out _ _ (by rw [hd.out]; rfl) rfl, hb.setCell (Nat.le_refl _) _⟩, by simp [intOf]⟩
    · have hy : tn (x >>> k) = digI x k - 48 := by
        rw [← hlow]
        unfold tn at h2 ⊢
        rw [BitVec.toNat_and]
        show _ = ((((x >>> k).toNat &&& 1 : Nat)) : Int)
        rw [Nat.and_one_is_mod]
        omega
      have hnext := Lib.hid (fun (w' : World) (v : Value) (hv : v = .int .u8 (digI x k)) (h : w' = wr.setCell ⟨w.heap.size, p, none⟩ v) => show w'.rowIs w.heap.size 136 65 (bufF x (k + 1)) from by
        subst h hv; exact (hr.set p _).congr (fun j hj => hst.out j hj))
      clear hst hr
      by_cases hbit : x.getLsbD k = true
      · have hd : digI x k = 49 := by unfold digI; rw [if_pos hbit]
        rw [hd] at hy
        replace hy : tn (x >>> k) = 1 := hy
        replace hd := Lib.hid hd
        have hlit : (((({ data := #[48, 49, 50, 51, 52, 53, 54, 55, 56, 57, 97, 98, 99, 100, 101, 102, 103, 104, 105, 106, 107, 108, 109, 110, 111, 112, 113, 114, 115, 116, 117, 118, 119, 120, 121, 122] } : ByteArray)[1]).toNat : Nat) : Int) = 49 := rfl
        have hsl := slice_any w.heap.size p (by omega)
        have hr1 := hnext.out _ (.int .u8 49) (by rw [hd.out]) rfl
        have hcv := conv_any x w.heap.size k p hkp _ hr1
        have hsmall := h2
        clear hbit hlow hnext
        have hlt2 := Lib.hid (show x.toNat / 2 ^ k < 2 from by unfold tn at h2; rw [BitVec.toNat_ushiftRight, Nat.shiftRight_eq_div_pow] at h2; omega)
        replace hsh := hlt2
        replace hr1 := Lib.hid hr1
        generalize x >>> k = y at *
        go_wp2
        go_ret2
        exact ⟨k, by omega, hlt2.out, rfl, hb.setCell (Nat.le_refl _) _⟩
      · have hd : digI x k = 48 := by unfold digI; rw [if_neg hbit]
        rw [hd] at hy
        replace hy : tn (x >>> k) = 0 := hy
        replace hd := Lib.hid hd
        have hlit : (((({ data := #[48, 49, 50, 51, 52, 53, 54, 55, 56, 57, 97, 98, 99, 100, 101, 102, 103, 104, 105, 106, 107, 108, 109, 110, 111, 112, 113, 114, 115, 116, 117, 118, 119, 120, 121, 122] } : ByteArray)[0]).toNat : Nat) : Int) = 48 := rfl
        have hsl := slice_any w.heap.size p (by omega)
        have hr1 := hnext.out _ (.int .u8 48) (by rw [hd.out]) rfl
        have hcv := conv_any x w.heap.size k p hkp _ hr1
        have hsmall := h2
        clear hbit hlow hnext
        have hlt2 := Lib.hid (show x.toNat / 2 ^ k < 2 from by unfold tn at h2; rw [BitVec.toNat_ushiftRight, Nat.shiftRight_eq_div_pow] at h2; omega)
        replace hsh := hlt2
        replace hr1 := Lib.hid hr1
        generalize x >>> k = y at *
        go_wp2
        go_ret2
        exact ⟨k, by omega, hlt2.out, rfl, hb.setCell (Nat.le_refl _) _⟩
theorem fmtInner_any (x : BitVec 64) (w : World) (hT : TabZ w) :
    Calls Tryd.prog 73 #[.int .u64 (tn x), .int .i64 2] w fun e w' => FmtPost x w e w' (fun s => .returned (.string s)) := by
  go_enter Tryd.func73, Tryd.ntmps73
  go_wp2_with (go_at_call 86; refine (formatBits_any x _ hT).mono ?_; rintro e w' ⟨q, h1, h2, rfl, hb⟩)
  go_ret
  exact ⟨q, h1, h2, rfl, hb⟩
theorem formatUint_any (x : BitVec 64) (w : World) (hT : TabZ w) :
    Calls Tryd.prog 60 #[.int .u64 (tn x), .int .i64 2] w fun e w' => FmtPost x w e w' (fun s => .returned (.string s)) := by
  go_enter Tryd.func60, Tryd.ntmps60
  go_wp2_with (go_at_call 73; refine (fmtInner_any x _ hT).mono ?_; rintro e w' ⟨q, h1, h2, rfl, hb⟩)
  go_ret
  exact ⟨q, h1, h2, rfl, hb⟩
/-- The digits from the greatest one on are the 64 digits, but for the noughts ahead. -/
theorem digs_full (x : BitVec 64) (q : Nat) (hq : q < 64) (h : x.toNat / 2 ^ q < 2) : ∀ n, n ≤ 63 - q → digs x (q + 1 + n) = List.replicate n 48 ++ digs x (q + 1)
  | 0, _ => rfl
  | n + 1, hn => by
    rw [show q + 1 + (n + 1) = (q + 1 + n) + 1 by omega, digs, digs_full x q hq h n (by omega), List.replicate_succ]
    have hz : x.getLsbD (q + 1 + n) = false := by
      have hlt : x.toNat < 2 ^ (q + 1) := by
        rw [Nat.div_lt_iff_lt_mul (Nat.pow_pos (by decide))] at h
        rw [Nat.pow_succ]; omega
      exact Nat.testBit_lt_two_pow (Nat.lt_of_lt_of_le hlt (Nat.pow_le_pow_right (by decide) (by omega)))
    unfold digU
    rw [hz]; rfl
theorem repeat_one : ∀ n : Nat, Lib.repeatL ([48] : List UInt8) n = List.replicate n 48
  | 0 => rfl
  | n + 1 => by
    show [48] ++ Lib.repeatL ([48] : List UInt8) n = _
    rw [repeat_one n]; rfl
theorem noughts_any (q : Nat) (hq : q < 64) (w : World) :
    Calls Tryd.prog 61 #[.string ⟨#[48]⟩, .int .i64 (64 - ((q : Int) + 1))] w fun e w' => e = .returned (.string (tx (List.replicate (63 - q) 48))) ∧ Below w.heap.size w w' := by
  have h := Any.strings_Repeat lays_Lays_n105 lays_Builder_Extra (tx [48]) (63 - q) w (by omega) (by show 1 * _ ≤ _; omega)
  rw [show ((63 - q : Nat) : Int) = 64 - ((q : Int) + 1) by omega, show (tx [48]).data.toList = [48] from rfl, repeat_one] at h
  exact h
theorem text_any (x : BitVec 64) (w : World) (hT : TabZ w) :
    Calls Tryd.prog 47 #[.int .u64 (tn x)] w fun e w' => e = .returned (.string (tx (digs x 64))) ∧ Below w.heap.size w w' := by
  go_enter Tryd.func47, Tryd.ntmps47
  go_wp2_with (first
    | (go_at_call 61; refine hn.out.mono ?_; rintro e w2 ⟨rfl, hb2⟩)
    | (go_at_call 60; refine (formatUint_any x _ hT).mono ?_; rintro e w1 ⟨q, h1, h2, rfl, hb1⟩; have hln := digs_len x (q + 1); have hn := Lib.hid (noughts_any q h1 w1); have hfin := Lib.hid (digs_full x q h1 h2 (63 - q) (Nat.le_refl _))))
  go_ret
  refine ⟨?_, hb1.trans (hb2.mono hb1.size)⟩
  have e : q + 1 + (63 - q) = 64 := by omega
  have hf := hfin.out
  rw [e] at hf
  rw [hf, ← tx_app]
  rfl
theorem doorText_any (x : BitVec 64) (w : World) (hT : TabZ w) :
    Calls Tryd.prog 37 #[.int .u64 (tn x)] w fun e w' => e = .returned (.string (tx (digs x 64))) ∧ Below w.heap.size w w' := by
  go_enter Tryd.func37, Tryd.ntmps37
  go_wp2_with (go_at_call 47; refine (text_any x _ hT).mono ?_; rintro e w1 ⟨rfl, hb1⟩)
  go_ret
  exact ⟨rfl, hb1⟩
theorem implText_any (x : BitVec 64) (w : World) (hT : TabZ w) :
    Calls Tryd.prog 17 #[.int .u64 (tn x)] w fun e w' => e = .returned (.string (tx (digs x 64))) ∧ Below w.heap.size w w' := by
  go_enter Tryd.func17, Tryd.ntmps17
  go_wp2_with (go_at_call 37; refine (doorText_any x _ hT).mono ?_; rintro e w1 ⟨rfl, hb1⟩)
  go_ret
  exact ⟨rfl, hb1⟩
end Go.Proofs.YtkbbncobgmepbaaDoor

/- The law FnPoBook. -/
import Derived.Test.YtpoomblloahahaaDoorPbM
namespace Go.Proofs.YtpoomblloahahaaDoor
open Go.Proofs Go.Shelf Go.Sort Go.ChangeShapes Go.WideShapes Go.ChangeAt Go.RowKit Go.PlainAid
set_option maxHeartbeats 2000000
set_option linter.unusedVariables false
set_option linter.unusedSimpArgs false

set_option maxRecDepth 100000 in
theorem walk_long (v : Value) (y : Int) (L : List UInt8) (hs : 2147483647 < L.length) (W : World) (hD : DataAt W v L) :
    Calls Tryd.prog 3 #[v, .int .u8 y] W fun e w' => e = .returned (.bool true) ∧ RowKit.Below W.heap.size W w' := by
  obtain ⟨a, c, rfl, _, _⟩ := hD
  have hd : decide ((2147483647 : Int) < (L.length : Int)) = true := by simp; omega
  go_enter Tryd.func3, Tryd.ntmps3
  go_wp2
  go_ret
  exact ⟨rfl, RowKit.Below.refl _ _⟩
set_option maxRecDepth 100000 in
theorem walk_640 (v : Value) (y : Int) (L : List UInt8) (hs : L.length ≤ 2147483647) (h4 : 640 < L.length) (W : World) (hD : DataAt W v L) :
    Calls Tryd.prog 3 #[v, .int .u8 y] W fun e w' => e = .returned (.bool true) ∧ RowKit.Below W.heap.size W w' := by
  obtain ⟨a, c, rfl, _, _⟩ := hD
  have hd : decide ((2147483647 : Int) < (L.length : Int)) = false := by simp; omega
  have hd2 : decide ((640 : Int) < (L.length : Int)) = true := by simp; omega
  go_enter Tryd.func3, Tryd.ntmps3
  go_wp2
  go_ret
  exact ⟨rfl, RowKit.Below.refl _ _⟩
set_option maxRecDepth 100000 in
theorem walk_no (v : Value) (y : Int) (hy : 0 ≤ y ∧ y < 256) (L : List UInt8) (hL : L.length ≤ 640) (h16 : L.length % 16 ≠ 0) (W : World) (hD : DataAt W v L) :
    Calls Tryd.prog 3 #[v, .int .u8 y] W fun e w' => e = .returned (.bool true) ∧ RowKit.Below W.heap.size W w' := by
  have hr := Lib.hid (poRead_any v L W hD hL)
  have hlen := readL_len L (L.length / 16)
  have hD0 := Lib.hid hD
  obtain ⟨a, c, rfl, _, _⟩ := hD
  have hd : decide ((2147483647 : Int) < (L.length : Int)) = false := by simp; omega
  have hd2 : decide ((640 : Int) < (L.length : Int)) = false := by simp; omega
  have ht : (L.length : Int).tmod 16 = ((L.length % 16 : Nat) : Int) := by rw [Int.tmod_eq_emod_of_nonneg (by omega)]; omega
  have hne : (((L.length % 16 : Nat) : Int) != 0) = true := by simp only [bne_iff_ne, ne_eq]; omega
  go_enter Tryd.func3, Tryd.ntmps3
  go_wp2_with (fail)
  refine hr.out.mono ?_
  rintro e w1 ⟨u, rfl, ho, hb1⟩
  have hE := ens_own (l := readL L (L.length / 16)) (by rw [hlen]; exact ho)
  have hk := Lib.hid (poKey_any u (readL L (L.length / 16)) y hy w1 hE (by rw [hlen]; omega))
  have hD1 := Lib.hid (hD0.out.below hb1)
  clear hr ho hE
  go_wp2_with (go_at_call 5; refine hk.out.mono ?_; rintro e w2 ⟨key, rfl, rfl⟩)
  refine (bookFind_no _ L hL h16 key w1 hD1.out).mono ?_
  rintro e w3 ⟨rfl, hb3⟩
  go_wp2_with (fail)
  refine (bookEntries_no _ L hL h16 w3 (hD1.out.below hb3)).mono ?_
  rintro e w4 ⟨rfl, hb4⟩
  generalize L.length % 16 = r at *
  go_wp2_with (fail)
  go_ret
  exact ⟨rfl, hb1.trans ((hb3.trans (hb4.mono hb3.size)).mono hb1.size)⟩
end Go.Proofs.YtpoomblloahahaaDoor

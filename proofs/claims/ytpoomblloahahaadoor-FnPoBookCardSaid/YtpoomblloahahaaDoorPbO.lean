/- The law FnPoBook: bytes that are whole entries. -/
import Derived.Test.YtpoomblloahahaaDoorPbN
namespace Go.Proofs.YtpoomblloahahaaDoor
open Go.Proofs Go.Shelf Go.Sort Go.ChangeShapes Go.WideShapes Go.ChangeAt Go.RowKit Go.PlainAid
set_option maxHeartbeats 2000000
set_option linter.unusedVariables false
set_option linter.unusedSimpArgs false

set_option maxRecDepth 100000 in
theorem walk_yes (v : Value) (y : Int) (hy : 0 ≤ y ∧ y < 256) (L : List UInt8) (hL : L.length ≤ 640) (h16 : L.length % 16 = 0) (W : World) (hD : DataAt W v L) (hT : TabB W) :
    Calls Tryd.prog 3 #[v, .int .u8 y] W fun e w' => e = .returned (.bool true) ∧ RowKit.Below W.heap.size W w' := by
  have hr := Lib.hid (poRead_any v L W hD hL)
  have hlen := readL_len L (L.length / 16)
  have hD0 := Lib.hid hD
  obtain ⟨a, c, rfl, _, _⟩ := hD
  have hd : decide ((2147483647 : Int) < (L.length : Int)) = false := by simp; omega
  have hd2 : decide ((640 : Int) < (L.length : Int)) = false := by simp; omega
  have ht : (L.length : Int).tmod 16 = 0 := by rw [Int.tmod_eq_emod_of_nonneg (by omega)]; omega
  go_enter Tryd.func3, Tryd.ntmps3
  go_wp2_with (fail)
  refine hr.out.mono ?_
  rintro e w1 ⟨u, rfl, ho, hb1⟩
  have hE := ens_own (l := readL L (L.length / 16)) (by rw [hlen]; exact ho)
  have hk := Lib.hid (poKey_any u (readL L (L.length / 16)) y hy w1 hE (by rw [hlen]; omega))
  have hD1 := Lib.hid (hD0.out.below hb1)
  have hT1 := Lib.hid (hT.below hb1)
  clear hr ho hD0
  replace hE := Lib.hid hE
  go_wp2_with (go_at_call 5; refine hk.out.mono ?_; rintro e w2 ⟨key, rfl, rfl⟩)
  clear hk
  refine (bookFind_yes _ L hL h16 key w1 hD1.out hT1.out).mono ?_
  rintro e w3 ⟨u3, rfl, l3, hE3, hp3, hs3, hb3⟩
  have hD3 := Lib.hid (hD1.out.below hb3)
  have hT3 := Lib.hid (hT1.out.below hb3)
  replace hE := Lib.hid (hE.out.below hb3)
  replace hb1 := hb1.trans (hb3.mono hb1.size)
  clear hD1 hT1 hb3
  go_wp2_with (fail)
  refine (bookEntries_yes _ L hL h16 w3 hD3.out hT3.out).mono ?_
  rintro e w4 ⟨u4, rfl, l4, hE4, hp4, hs4, hb4⟩
  replace hE := Lib.hid (hE.out.below hb4)
  replace hE3 := hE3.below hb4
  replace hb1 := hb1.trans (hb4.mono hb1.size)
  clear hD3 hT3 hb4
  generalize hR : readL L (L.length / 16) = R at *
  have hRl : R.length ≤ 1000 := by omega
  clear hlen hR
  have hl3 : l3.length ≤ 1000 := by have := hp3.length_eq; have := ofKey_le R key; omega
  have hl4 : l4.length ≤ 1000 := by have := hp4.length_eq; omega
  have cS := Lib.hid (fun (w : World) (h : RowKit.Below w4.heap.size w4 w) => poSame_any u4 u l4 R w (hE4.below h) (hE.out.below h) hp4 hl4)
  have cO := Lib.hid (fun (w : World) (h : RowKit.Below w4.heap.size w4 w) => poOf_any u R key w (hE.out.below h) hRl)
  have cT := Lib.hid (fun (u9 : Value) (w : World) (h : RowKit.Below w4.heap.size w4 w) (h9 : EnS w u9 (ofKey R key)) => poSame_any u3 u9 l3 (ofKey R key) w (hE3.below h) h9 hp3 hl3)
  clear hE hp3 hp4 hRl
  obtain ⟨a3, c3, rfl, hE3⟩ := hE3
  obtain ⟨a4, c4, rfl, hE4⟩ := hE4
  go_upto_region 11 with (fail)
  go_wp2_with (fail)
  go_loopw [11] (fun i wr => ∃ k : Nat, i = .int .i64 ((k + 1 : Nat) : Int) ∧ (k + 1 ≤ l3.length ∨ k = 0) ∧ RowKit.Below w4.heap.size w4 wr) (fun i _ => l3.length - (intOf i).toNat)
  case atStart => exact ⟨0, rfl, by omega, RowKit.Below.refl _ _⟩
  case round =>
    obtain ⟨k, rfl, hk, kB⟩ := hrel
    by_cases hlt : k + 1 < l3.length
    · obtain ⟨g, rfl, hg, hc⟩ := hE3 (by omega)
      have x1 := (kB.cell (show (⟨g, (k + 1) * 4 + 2, none⟩ : Addr).block < w4.heap.size from hg)).trans (hc (k + 1) hlt 2 (by omega))
      have x0 := (kB.cell (show (⟨g, k * 4 + 2, none⟩ : Addr).block < w4.heap.size from hg)).trans (hc k (by omega) 2 (by omega))
      have hso := hs3 k (k + 1) (by omega) hlt
      generalize l3.getD k e0 = p at *
      generalize l3.getD (k + 1) e0 = q at *
      simp only [enF] at x0 x1
      simp only [ltW] at hso
      have hdl : decide (((k + 1 : Nat) : Int) < (l3.length : Int)) = true := decide_eq_true (by omega)
      clear hc hE3 hs3 hE4 hs4
      go_upto_region 14 with (fail)
      go_quiet (fail)
      go_wp2_with (fail)
      exact ⟨⟨k + 1, by go_num, by omega, kB.trans ⟨rfl, rfl, rfl, Nat.le_refl _, fun _ _ => rfl⟩⟩, by simp [intOf]; omega⟩
    · have hdl : decide (((k + 1 : Nat) : Int) < (l3.length : Int)) = false := decide_eq_false (by omega)
      clear hE3 hs3 hk
      go_upto_region 16 with (fail)
      clear hdl
      go_wp2_with (fail)
      go_loopw [12] (fun i wr => ∃ k : Nat, i = .int .i64 ((k + 1 : Nat) : Int) ∧ (k + 1 ≤ l4.length ∨ k = 0) ∧ RowKit.Below w4.heap.size w4 wr) (fun i _ => l4.length - (intOf i).toNat)
      case atStart => exact ⟨0, rfl, by omega, kB⟩
      case round =>
        clear kB
        obtain ⟨k, rfl, hk, kB⟩ := hrel
        by_cases hlt : k + 1 < l4.length
        · obtain ⟨g, rfl, hg, hc⟩ := hE4 (by omega)
          have x1 := (kB.cell (show (⟨g, (k + 1) * 4 + 0, none⟩ : Addr).block < w4.heap.size from hg)).trans (hc (k + 1) hlt 0 (by omega))
          have x0 := (kB.cell (show (⟨g, k * 4 + 0, none⟩ : Addr).block < w4.heap.size from hg)).trans (hc k (by omega) 0 (by omega))
          have hso := hs4 k (k + 1) (by omega) hlt
          generalize l4.getD k e0 = p at *
          generalize l4.getD (k + 1) e0 = q at *
          simp only [enF, Nat.add_zero] at x0 x1
          simp only [ltK] at hso
          have hdl : decide (((k + 1 : Nat) : Int) < (l4.length : Int)) = true := decide_eq_true (by omega)
          clear hc hE4 hs4
          go_upto_region 19 with (fail)
          go_quiet (fail)
          go_wp2_with (fail)
          exact ⟨⟨k + 1, by go_num, by omega, kB.trans ⟨rfl, rfl, rfl, Nat.le_refl _, fun _ _ => rfl⟩⟩, by simp [intOf]; omega⟩
        · have hdl : decide (((k + 1 : Nat) : Int) < (l4.length : Int)) = false := decide_eq_false (by omega)
          clear hE4 hs4 hk
          go_upto_region 21 with (fail)
          clear hdl
          go_wp2_with (fail)
          refine (cS.out wr kB).mono ?_
          rintro e w5 ⟨rfl, hb5⟩
          have kB5 := kB.trans (hb5.mono kB.size)
          clear cS hb5
          go_wp2_with (fail)
          refine (cO.out w5 kB5).mono ?_
          rintro e w6 ⟨u9, rfl, ho9, hb6⟩
          have kB6 := kB5.trans (hb6.mono kB5.size)
          have h9 := Lib.hid (ens_own ho9)
          clear cO hb6 ho9
          go_wp2_with (fail)
          refine (cT.out u9 w6 kB6 h9.out).mono ?_
          rintro e w7 ⟨rfl, hb7⟩
          have kB7 := kB6.trans (hb7.mono kB6.size)
          clear cT hb7
          go_wp2_with (fail)
          go_ret
          exact ⟨rfl, hb1.trans (kB7.mono hb1.size)⟩
end Go.Proofs.YtpoomblloahahaaDoor

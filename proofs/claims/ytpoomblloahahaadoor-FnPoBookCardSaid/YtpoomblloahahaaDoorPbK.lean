/- A key's entries: the search of the first one. -/
import Derived.Test.YtpoomblloahahaaDoorPbJ
import Derived.BigQuiet
namespace Go.Proofs.YtpoomblloahahaaDoor
open Go.Proofs Go.Shelf Go.Sort Go.ChangeShapes Go.WideShapes Go.ChangeAt Go.RowKit Go.PlainAid
set_option maxHeartbeats 2000000
set_option linter.unusedVariables false
set_option linter.unusedSimpArgs false

/-- What the search looks at. -/
def FS (pb Bs Ks : Nat) (v : Value) (l : List En) (key : Int) (W : World) : Prop :=
  Bs < W.heap.size ∧ Ks < W.heap.size ∧ pb < W.heap.size ∧ W.cell? ⟨Bs, 0, none⟩ = some (.pointer (some ⟨pb, 0, none⟩)) ∧ W.cell? ⟨Ks, 0, none⟩ = some (.int .u64 key) ∧ W.cell? ⟨pb, 0, none⟩ = some v ∧ EnS W v l
theorem FS.below {pb Bs Ks : Nat} {v : Value} {l : List En} {key : Int} {w w' : World} (h : FS pb Bs Ks v l key w) (hb : RowKit.Below w.heap.size w w') : FS pb Bs Ks v l key w' := by
  obtain ⟨h1, h2, h3, h4, h5, h6, h7⟩ := h
  exact ⟨Nat.lt_of_lt_of_le h1 hb.size, Nat.lt_of_lt_of_le h2 hb.size, Nat.lt_of_lt_of_le h3 hb.size, by rw [hb.cell (show (⟨Bs, 0, none⟩ : Addr).block < w.heap.size from h1)]; exact h4, by rw [hb.cell (show (⟨Ks, 0, none⟩ : Addr).block < w.heap.size from h2)]; exact h5, by rw [hb.cell (show (⟨pb, 0, none⟩ : Addr).block < w.heap.size from h3)]; exact h6, h7.below hb⟩
theorem pred_any (pb Bs Ks : Nat) (v : Value) (l : List En) (key : Int) (i : Nat) (hi : i < l.length) (hl : l.length ≤ 1000) (w : World) (h : FS pb Bs Ks v l key w) :
    Calls Tryd.prog 20 #[.int .i64 (i : Int), .pointer (some ⟨Bs, 0, none⟩), .pointer (some ⟨Ks, 0, none⟩)] w fun e w' => e = .returned (.bool (decide (key ≤ (l.getD i e0).1))) ∧ RowKit.Below w.heap.size w w' := by
  obtain ⟨h1, h2, h3, h4, h5, h6, a, c, rfl, hE⟩ := h
  obtain ⟨g, rfl, hg, hc⟩ := hE (by omega)
  clear hE
  have c0 := hc i hi 0 (by omega)
  rw [Nat.add_zero] at c0
  clear hc
  generalize l.getD i e0 = x at *
  simp only [enF] at c0
  go_enter Tryd.func20, Tryd.ntmps20
  go_wp2
  go_quiet (fail)
  go_wp2
  go_ret
  exact ⟨rfl, rfl, rfl, rfl, Nat.le_refl _, fun _ _ => rfl⟩
/-- The first index at which a key is not less (of sorted ones). -/
def Found (l : List En) (key : Int) (m : Nat) : Prop := m ≤ l.length ∧ (0 < m → (l.getD (m - 1) e0).1 < key) ∧ (m < l.length → key ≤ (l.getD m e0).1)
theorem half_any (a b : Nat) : ((a : Int) + (b : Int)) / 2 = (((a + b) / 2 : Nat) : Int) := by omega
set_option maxRecDepth 100000 in
theorem search_any (pb Bs Ks : Nat) (v : Value) (l : List En) (key : Int) (hl : l.length ≤ 1000) (w : World) (h : FS pb Bs Ks v l key w) :
    Calls Tryd.prog 19 #[.int .i64 (l.length : Int), .func (.func 20) #[] #[.pointer (some ⟨Bs, 0, none⟩), .pointer (some ⟨Ks, 0, none⟩)]] w fun e w' => (∃ m : Nat, e = .returned (.int .i64 (m : Int)) ∧ Found l key m) ∧ RowKit.Below w.heap.size w w' := by
  replace h := Lib.hid h
  go_enter Tryd.func19, Tryd.ntmps19
  go_wp2
  go_loopw [5, 6] (fun i j wr => ∃ a b : Nat, i = .int .i64 (a : Int) ∧ j = .int .i64 (b : Int) ∧ a ≤ b ∧ b ≤ l.length ∧ (0 < a → (l.getD (a - 1) e0).1 < key) ∧ (b < l.length → key ≤ (l.getD b e0).1) ∧ RowKit.Below w.heap.size w wr) (fun i j _ => (intOf j).toNat - (intOf i).toNat)
  case atStart => exact ⟨0, l.length, rfl, rfl, by omega, by omega, fun h => by omega, fun h => by omega, RowKit.Below.refl _ _⟩
  case round =>
    obtain ⟨a, b, rfl, rfl, hab, hbl, ha, hb, kB⟩ := hrel
    by_cases hlt : a < b
    · have hm := half_any a b
      have hm1 : a ≤ (a + b) / 2 := by omega
      have hm2 : (a + b) / 2 < b := by omega
      have hp := Lib.hid (pred_any pb Bs Ks v l key ((a + b) / 2) (by omega) hl wr (h.out.below kB))
      generalize (a + b) / 2 = m at *
      have hml : m < l.length := by omega
      cases hd : decide (key ≤ (l.getD m e0).1)
      · rw [hd] at hp
        have hd2 : (l.getD m e0).1 < key := by have := of_decide_eq_false hd; omega
        replace hd2 := Lib.hid hd2
        replace ha := Lib.hid ha
        replace hb := Lib.hid hb
        clear hd
        go_wp2_with (go_at_call 20; refine hp.out.mono ?_; rintro e w2 ⟨rfl, hb2⟩)
        exact ⟨⟨m + 1, b, by go_num, rfl, by omega, hbl, fun _ => by rw [Nat.add_sub_cancel]; exact hd2.out, hb.out, kB.trans (hb2.mono kB.size)⟩, by simp [intOf]; omega⟩
      · rw [hd] at hp
        have hd2 : key ≤ (l.getD m e0).1 := of_decide_eq_true hd
        replace hd2 := Lib.hid hd2
        replace ha := Lib.hid ha
        replace hb := Lib.hid hb
        clear hd
        go_wp2_with (go_at_call 20; refine hp.out.mono ?_; rintro e w2 ⟨rfl, hb2⟩)
        exact ⟨⟨a, m, rfl, rfl, by omega, by omega, ha.out, fun _ => hd2.out, kB.trans (hb2.mono kB.size)⟩, by simp [intOf]; omega⟩
    · obtain rfl : a = b := by omega
      replace ha := Lib.hid ha
      replace hb := Lib.hid hb
      go_wp2
      go_ret
      exact ⟨⟨a, rfl, hbl, ha.out, hb.out⟩, kB⟩
end Go.Proofs.YtpoomblloahahaaDoor

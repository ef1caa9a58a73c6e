/- A book is loaded from bytes; the search of a key's first entry. -/
import Derived.Test.YtpoomblloahahaaGreatDoorPbH
namespace Go.Proofs.YtpoomblloahahaaGreatDoor
open Go.Proofs Go.Shelf Go.Sort Go.ChangeShapes Go.WideShapes Go.ChangeAt Go.RowKit Go.PlainAid
set_option maxHeartbeats 2000000
set_option linter.unusedVariables false
set_option linter.unusedSimpArgs false

/-- What the walks ask of the listed variables. -/
def TabB (W : World) : Prop := 0 < W.heap.size ∧ ∃ ad, W.cell? ⟨0, 0, none⟩ = some (.iface 117 (.pointer (some ad)))
theorem TabB.below {w w' : World} (h : TabB w) (hb : RowKit.Below w.heap.size w w') : TabB w' := by
  obtain ⟨h1, ad, h3⟩ := h
  exact ⟨Nat.lt_of_lt_of_le h1 hb.size, ad, by rw [hb.cell (show (⟨0, 0, none⟩ : Addr).block < w.heap.size from h1)]; exact h3⟩
/-- A book that is loaded. -/
def Book (L : List UInt8) (pb : Nat) (v : Value) (l : List En) (w : World) : Prop :=
  pb < w.heap.size ∧ w.cell? ⟨pb, 0, none⟩ = some v ∧ EnS w v l ∧ l.Perm (readL L (L.length / 16)) ∧ (∀ i j : Nat, i < j → j < l.length → ltK (l.getD j e0) (l.getD i e0) = false)
theorem loadBytes_no (v : Value) (L : List UInt8) (W : World) (hD : DataAt W v L) (hL : L.length ≤ 640) (h16 : L.length % 16 ≠ 0) :
    Calls Tryz.prog 8 #[v] W fun e w' => LoadNo W e w' ∧ RowKit.Below W.heap.size W w' := by
  obtain ⟨a, c, rfl, hcap, hD⟩ := hD
  have hn := Lib.hid (newSource_any a L.length c W)
  go_enter Tryz.func8, Tryz.ntmps8
  go_wp2_with (fail)
  refine hn.out.mono ?_
  rintro e w1 ⟨rfl, hs, hb⟩
  have hl := Lib.hid (load_no W.heap.size a L.length c w1 hs (by omega) h16)
  clear hs hn
  go_wp2_with (fail)
  refine hl.out.mono ?_
  rintro e w2 ⟨⟨ad, rfl⟩, hb2⟩
  go_wp2_with (fail)
  go_ret2
  exact ⟨⟨_, rfl⟩, hb.trans (hb2.mono hb.size)⟩
theorem loadBytes_yes (v : Value) (L : List UInt8) (W : World) (hD : DataAt W v L) (hL : L.length ≤ 640) (h16 : L.length % 16 = 0) (hT : TabB W) :
    Calls Tryz.prog 8 #[v] W fun e w' => ∃ pb v l, e = .returned (.tuple #[.pointer (some ⟨pb, 0, none⟩), .nilIface]) ∧ Book L pb v l w' ∧ RowKit.Below W.heap.size W w' ∧ W.heap.size ≤ pb ∧ w'.rowIs pb 71 1 (fun _ => v) ∧ w'.ownsRow W.heap.size 69 4 v l.length (ents l) := by
  obtain ⟨a, c, rfl, hcap, hD⟩ := hD
  obtain ⟨g, o, hA, hg, hd⟩ : ∃ g o, (0 < L.length → a = some ⟨g, o, none⟩) ∧ (0 < L.length → g < W.heap.size) ∧ ∀ i, i < L.length → W.cell? ⟨g, o + i, none⟩ = some (.int .u8 (byI L i)) := by
    by_cases h0 : 0 < L.length
    · obtain ⟨g, o, h1, h2, h3⟩ := hD h0
      exact ⟨g, o, fun _ => h1, fun _ => h2, h3⟩
    · exact ⟨0, 0, fun h => absurd h h0, fun h => absurd h h0, fun i hi => by omega⟩
  obtain ⟨ht1, ad, ht3⟩ := hT
  have hn := Lib.hid (newSource_any a L.length c W)
  go_enter Tryz.func8, Tryz.ntmps8
  go_wp2_with (fail)
  refine hn.out.mono ?_
  rintro e w1 ⟨rfl, hs, hb⟩
  have hl := Lib.hid (load_yes W.heap.size W.heap.size g o c a L hA W w1 (.iface 117 (.pointer (some ad))) (Nat.le_refl _) hb hb.size hs (by omega) h16 hcap hg (fun i hi => by rw [hb.cell (show (⟨g, o + i, none⟩ : Addr).block < W.heap.size from hg (by omega))]; exact hd i hi) (by rw [hb.cell (show (⟨0, 0, none⟩ : Addr).block < W.heap.size from ht1)]; exact ht3) ⟨_, rfl⟩ ht1)
  clear hs hn hd hA hg ht3
  go_wp2_with (fail)
  refine hl.out.mono ?_
  rintro e w2 ⟨pb, v, l, rfl, hpb, hlt, hc, hE, hp, hso, hB, hR, hO⟩
  have hfin := Lib.hid (And.intro (⟨hlt, hc, hE, hp, hso⟩ : Book L pb v l w2) (And.intro hB (And.intro hpb (And.intro hR hO))))
  clear hc hE hp hso hB hR hO hl
  go_wp2_with (fail)
  go_ret2
  exact ⟨pb, v, l, rfl, hfin.out.1, hfin.out.2⟩
end Go.Proofs.YtpoomblloahahaaGreatDoor

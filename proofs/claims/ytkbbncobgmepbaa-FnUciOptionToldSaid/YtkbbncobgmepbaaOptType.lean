/- The types of options, and when two options are the same. -/
import Derived.Test.YtkbbncobgmepbaaOptText
namespace Go.Proofs.Ytkbbncobgmepbaa
open Go.ChangeShapes Go.WideShapes Go.ChangeAt Go.RowKit Go.PlainAid
set_option maxHeartbeats 1000000
set_option linter.unusedVariables false
set_option linter.unusedSimpArgs false
attribute [local go_sem] tx_list tx_size

def typeT (i : Nat) : List UInt8 := [[99, 104, 101, 99, 107], [115, 112, 105, 110], [99, 111, 109, 98, 111], [98, 117, 116, 116, 111, 110], [115, 116, 114, 105, 110, 103]].getD i []
theorem types_all : (List.range 5).all (fun k => (List.range 5).all fun i => (typeT k == typeT i) == decide (k = i)) = true := by decide
theorem typeT_eq {k i : Nat} (hk : k < 5) (hi : i < 5) : (typeT k == typeT i) = decide (k = i) := by
  have h := List.all_eq_true.1 (List.all_eq_true.1 types_all k (List.mem_range.2 hk)) i (List.mem_range.2 hi)
  simpa using h
def typeCells : Array Value := #[.string (tx (typeT 0)), .string (tx (typeT 1)), .string (tx (typeT 2)), .string (tx (typeT 3)), .string (tx (typeT 4))]
theorem type_cells (w : World) : ∀ k, k < 5 → (w.alloc (.cells typeCells 35)).cell? ⟨w.heap.size, k, none⟩ = some (.string (tx (typeT k))) := by
  intro k hk
  have : k = 0 ∨ k = 1 ∨ k = 2 ∨ k = 3 ∨ k = 4 := by omega
  rcases this with rfl | rfl | rfl | rfl | rfl <;> simp [go_sem, typeCells]
set_option maxRecDepth 100000 in
theorem optType_any (i : Nat) (hi : i < 5) (w : World) :
    Calls Try.prog 20 #[.string (tx (typeT i))] w fun e w' => e = .returned (.tuple #[.string (tx (typeT i)), .nilIface]) ∧ Below w.heap.size w w' := by
  have hc := type_cells w
  have hb : Below w.heap.size w (w.alloc (.cells typeCells 35)) := (Below.refl _ _).alloc (Nat.le_refl _) _
  have heq := fun k hk => typeT_eq (k := k) (i := i) hk hi
  replace hc := Lib.hid hc
  replace hb := Lib.hid hb
  replace heq := Lib.hid heq
  generalize hx : typeT i = x at *
  replace hx := Lib.hid hx
  go_enter Try.func20, Try.ntmps20
  go_wp2
  have hc := hc.out
  have hb := hb.out
  change Code.wp _ _ _ _ (w.alloc (.cells typeCells 35))
  generalize (w.alloc (.cells typeCells 35)) = w1 at *
  replace hc := Lib.hid hc
  go_loopw [8, 5] (fun t _ wr => ∃ k : Nat, k ≤ i ∧ t = .int .i64 k ∧ w1 = wr) (fun t _ _ => 5 - (intOf t).toNat)
  case atStart => exact ⟨0, by omega, rfl, rfl⟩
  case round =>
    obtain ⟨k, hk, rfl, rfl⟩ := hrel
    have ck := hc.out k (by omega)
    have hk5 : k < 5 := by omega
    have hxy := heq.out k (by omega)
    by_cases e : k = i
    · rw [decide_eq_true e] at hxy
      have hfin := Lib.hid (show tx (typeT k) = tx x by rw [e, hx.out])
      replace e := Lib.hid e
      generalize typeT k = y at *
      go_wp2
      first | go_ret2 | go_ret3
      exact ⟨by rw [hfin.out]; rfl, hb⟩
    · rw [decide_eq_false e] at hxy
      generalize typeT k = y at *
      go_wp2
      exact ⟨⟨k + 1, by omega, by go_num, trivial⟩, by simp [intOf]; omega⟩
theorem TextsAt.norm {w : World} {v : Value} {l : List (List UInt8)} (h : TextsAt w v l) : ∃ a cap, v = .slice a l.length cap ∧ (0 < l.length → ∃ g o, a = some ⟨g, o, none⟩ ∧ g < w.heap.size ∧ ∀ i, i < l.length → w.cell? ⟨g, o + i, none⟩ = some (.string (tx (l.getD i [])))) := by
  rcases h with ⟨a0, c0, rfl, rfl, _⟩ | ⟨g, o, cap, rfl, hg, hc⟩
  · exact ⟨a0, c0, rfl, fun h => absurd h (by simp)⟩
  · exact ⟨_, cap, rfl, fun _ => ⟨g, o, rfl, hg, hc⟩⟩
set_option maxRecDepth 100000 in
theorem same_any (f : Nat → List UInt8) (v v' : Value) (l : List (List UInt8)) (w : World) (h : TextsAt w v l) (h' : TextsAt w v' l) (hl : l.length ≤ 1000) :
    Calls Try.prog 9 #[optV f v, optV f v'] w fun e w' => e = .returned (.bool true) ∧ Below w.heap.size w w' := by
  obtain ⟨a, cap, rfl, hn⟩ := h.norm
  obtain ⟨a', cap', rfl, hn'⟩ := h'.norm
  have hO := (optAt_new f (.slice a l.length cap) w)
  have hO2 := (optAt_new f (.slice a' l.length cap') (w.alloc (.cells #[.string (tx (f 0)), .string (tx (f 1)), .string (tx (f 2)), .string (tx (f 3)), .string (tx (f 4)), .slice a l.length cap] 24)))
  have hB2 : Below (w.alloc (.cells #[.string (tx (f 0)), .string (tx (f 1)), .string (tx (f 2)), .string (tx (f 3)), .string (tx (f 4)), .slice a l.length cap] 24)).heap.size (w.alloc (.cells #[.string (tx (f 0)), .string (tx (f 1)), .string (tx (f 2)), .string (tx (f 3)), .string (tx (f 4)), .slice a l.length cap] 24)) ((w.alloc (.cells #[.string (tx (f 0)), .string (tx (f 1)), .string (tx (f 2)), .string (tx (f 3)), .string (tx (f 4)), .slice a l.length cap] 24)).alloc (.cells #[.string (tx (f 0)), .string (tx (f 1)), .string (tx (f 2)), .string (tx (f 3)), .string (tx (f 4)), .slice a' l.length cap'] 24)) := (Below.refl _ _).alloc (Nat.le_refl _) _
  have hO1 := hO.below hB2
  rw [World.size_alloc] at hO2
  replace hn := Lib.hid hn
  replace hn' := Lib.hid hn'
  replace hO1 := Lib.hid hO1
  replace hO2 := Lib.hid hO2
  clear h h' hB2 hO
  unfold optV
  go_enter Try.func9, Try.ntmps9
  go_wp2
  have hO1 := hO1.out
  have hO2 := hO2.out
  generalize hw2 : ((w.alloc (.cells #[.string (tx (f 0)), .string (tx (f 1)), .string (tx (f 2)), .string (tx (f 3)), .string (tx (f 4)), .slice a l.length cap] 24)).alloc (.cells #[.string (tx (f 0)), .string (tx (f 1)), .string (tx (f 2)), .string (tx (f 3)), .string (tx (f 4)), .slice a' l.length cap'] 24)) = w2 at *
  clear hw2
  generalize (w.alloc (.cells #[.string (tx (f 0)), .string (tx (f 1)), .string (tx (f 2)), .string (tx (f 3)), .string (tx (f 4)), .slice a l.length cap] 24)) = w1 at *
  go_loopw [5] (fun i wr => ∃ k : Nat, k ≤ l.length ∧ i = .int .i64 k ∧ OptAt f (.slice a l.length cap) w.heap.size w wr ∧ OptAt f (.slice a' l.length cap') (w.heap.size + 1) w1 wr) (fun i _ => l.length - (intOf i).toNat)
  case atStart => exact ⟨0, by omega, rfl, hO1, hO2⟩
  case round =>
    clear hO1 hO2
    obtain ⟨k, hk, rfl, hO1, hO2⟩ := hrel
    have c5 := hO1.2.2.1
    have c6 := hO2.2.2.1
    by_cases hlt : k < l.length
    · obtain ⟨g, o, rfl, hg, hc⟩ := hn.out (by omega)
      obtain ⟨g', o', rfl, hg', hc'⟩ := hn'.out (by omega)
      have ck : wr.cell? ⟨g, o + k, none⟩ = some (.string (tx (l.getD k []))) := by rw [hO1.2.2.2.cell (show (⟨g, o + k, none⟩ : Addr).block < w.heap.size from hg)]; exact hc k hlt
      have ck' : wr.cell? ⟨g', o' + k, none⟩ = some (.string (tx (l.getD k []))) := by rw [hO1.2.2.2.cell (show (⟨g', o' + k, none⟩ : Addr).block < w.heap.size from hg')]; exact hc' k hlt
      replace hO1 := Lib.hid hO1
      replace hO2 := Lib.hid hO2
      clear hc hc'
      generalize l.getD k [] = x at *
      go_wp2
      go_quiet (fail)
      go_wp2
      exact ⟨⟨k + 1, by omega, by go_num, hO1.out.below ⟨rfl, rfl, rfl, Nat.le_refl _, fun _ _ => rfl⟩, hO2.out.below ⟨rfl, rfl, rfl, Nat.le_refl _, fun _ _ => rfl⟩⟩, by simp [intOf]; omega⟩
    · obtain rfl : k = l.length := by omega
      replace hO1 := Lib.hid hO1
      replace hO2 := Lib.hid hO2
      go_wp2
      go_ret
      exact ⟨rfl, hO1.out.2.2.2⟩
end Go.Proofs.Ytkbbncobgmepbaa

/- The text of an option, as the reference tells it. -/
import Derived.Test.YtkbbncobgmepbaaOptWord
import Derived.Deep.RegionHeld3
namespace Go.Proofs.Ytkbbncobgmepbaa
open Go.ChangeShapes Go.WideShapes Go.ChangeAt Go.RowKit Go.PlainAid
set_option maxHeartbeats 1000000
set_option linter.unusedVariables false
set_option linter.unusedSimpArgs false

theorem tx_mk (a : Array UInt8) : (⟨a⟩ : ByteArray) = tx a.toList := rfl
theorem tx_app (a b : List UInt8) : tx a ++ tx b = tx (a ++ b) := by
  apply ByteArray.ext
  show (tx a ++ tx b).data = (a ++ b).toArray
  rw [ByteArray.data_append]
  simp [tx]
attribute [local go_sem] tx_list tx_size
def nameT (i : Nat) : List UInt8 := [[100, 101, 102, 97, 117, 108, 116], [109, 105, 110], [109, 97, 120]].getD i []
def headT (f : Nat → List UInt8) : List UInt8 := [111, 112, 116, 105, 111, 110, 32, 110, 97, 109, 101, 32] ++ f 0 ++ [32, 116, 121, 112, 101, 32] ++ f 1
/-- Behind k of the three, and behind k of the values. -/
def midT (f : Nat → List UInt8) : Nat → List UInt8
  | 0 => headT f
  | k + 1 => midT f k ++ if f (2 + k) = [] then [] else [32] ++ nameT k ++ [32] ++ f (2 + k)
def endT (f : Nat → List UInt8) (l : List (List UInt8)) : Nat → List UInt8
  | 0 => midT f 3
  | k + 1 => endT f l k ++ ([32, 118, 97, 114, 32] ++ l.getD k [])
/-- What is asked of the texts. -/
structure OptOk (f : Nat → List UInt8) (l : List (List UInt8)) : Prop where
  fs : ∀ i, i < 5 → (f i).length ≤ 40
  ls : ∀ i, i < l.length → (l.getD i []).length ≤ 40
  few : l.length ≤ 10
theorem midT_len {f : Nat → List UInt8} {l : List (List UInt8)} (h : OptOk f l) : ∀ k, k ≤ 3 → (midT f k).length ≤ 98 + 49 * k
  | 0, _ => by
    have := h.fs 0 (by omega); have := h.fs 1 (by omega)
    simp [midT, headT]; omega
  | k + 1, hk => by
    have ih := midT_len h k (by omega)
    have := h.fs (2 + k) (by omega)
    have hn : (nameT k).length ≤ 7 := by
      have : k = 0 ∨ k = 1 ∨ k = 2 := by omega
      rcases this with rfl | rfl | rfl <;> simp [nameT]
    unfold midT
    rw [List.length_append]
    split
    · simp; omega
    · simp only [List.length_append, List.length_cons, List.length_nil]; omega
theorem endT_len {f : Nat → List UInt8} {l : List (List UInt8)} (h : OptOk f l) : ∀ k, k ≤ l.length → (endT f l k).length ≤ 245 + 45 * k
  | 0, _ => by have := midT_len h 3 (by omega); simpa [endT] using this
  | k + 1, hk => by
    have ih := endT_len h k (by omega)
    have := h.ls k (by omega)
    unfold endT
    simp only [List.length_append, List.length_cons, List.length_nil]; omega
/-- The option's block. -/
def OptAt (f : Nat → List UInt8) (v : Value) (b : Nat) (w0 w : World) : Prop :=
  b < w.heap.size ∧ (∀ i, i < 5 → w.cell? ⟨b, i, none⟩ = some (.string (tx (f i)))) ∧ w.cell? ⟨b, 5, none⟩ = some v ∧ Below w0.heap.size w0 w
theorem OptAt.below {f : Nat → List UInt8} {v : Value} {b : Nat} {w0 w w' : World} (h : OptAt f v b w0 w) (hb : Below w.heap.size w w') : OptAt f v b w0 w' :=
  ⟨Nat.lt_of_lt_of_le h.1 hb.size, fun i hi => by rw [hb.cell (show (⟨b, i, none⟩ : Addr).block < w.heap.size from h.1)]; exact h.2.1 i hi, by rw [hb.cell (show (⟨b, 5, none⟩ : Addr).block < w.heap.size from h.1)]; exact h.2.2.1, h.2.2.2.trans (hb.mono h.2.2.2.size)⟩
theorem optAt_new (f : Nat → List UInt8) (v : Value) (w : World) : OptAt f v w.heap.size w (w.alloc (.cells #[.string (tx (f 0)), .string (tx (f 1)), .string (tx (f 2)), .string (tx (f 3)), .string (tx (f 4)), v] 24)) := by
  refine ⟨by simp, fun i hi => ?_, ?_, (Below.refl _ _).alloc (Nat.le_refl _) _⟩
  · have : i = 0 ∨ i = 1 ∨ i = 2 ∨ i = 3 ∨ i = 4 := by omega
    rcases this with rfl | rfl | rfl | rfl | rfl <;> simp [go_sem]
  · simp [go_sem]
theorem three_cells (w : World) (x y z : List UInt8) (u : World) (hb : Below (w.heap.size + 1) (w.alloc (.cells #[.string (tx x), .string (tx y), .string (tx z)] 9)) u) : ∀ i, i < 3 → u.cell? ⟨w.heap.size, i, none⟩ = some (.string (tx ([x, y, z].getD i []))) := by
  intro i hi
  rw [hb.cell (show (⟨w.heap.size, i, none⟩ : Addr).block < w.heap.size + 1 from Nat.lt_succ_self _)]
  have : i = 0 ∨ i = 1 ∨ i = 2 := by omega
  rcases this with rfl | rfl | rfl <;> simp [go_sem]
/-- What the reference reads while it tells an option. -/
def OptR (f : Nat → List UInt8) (v : Value) (b gN gV : Nat) (w0 w : World) : Prop :=
  OptAt f v b w0 w ∧ gN < w.heap.size ∧ gV < w.heap.size ∧ (∀ i, i < 3 → w.cell? ⟨gN, i, none⟩ = some (.string (tx (nameT i)))) ∧ (∀ i, i < 3 → w.cell? ⟨gV, i, none⟩ = some (.string (tx (f (2 + i)))))
theorem OptR.below {f : Nat → List UInt8} {v : Value} {b gN gV : Nat} {w0 w w' : World} (h : OptR f v b gN gV w0 w) (hb : Below w.heap.size w w') : OptR f v b gN gV w0 w' :=
  ⟨h.1.below hb, Nat.lt_of_lt_of_le h.2.1 hb.size, Nat.lt_of_lt_of_le h.2.2.1 hb.size, fun i hi => by rw [hb.cell (show (⟨gN, i, none⟩ : Addr).block < w.heap.size from h.2.1)]; exact h.2.2.2.1 i hi, fun i hi => by rw [hb.cell (show (⟨gV, i, none⟩ : Addr).block < w.heap.size from h.2.2.1)]; exact h.2.2.2.2 i hi⟩
theorem mid_app (m y x : List UInt8) : tx m ++ ((⟨#[32]⟩ : ByteArray) ++ tx y ++ (⟨#[32]⟩ : ByteArray) ++ tx x) = tx (m ++ ([32] ++ y ++ [32] ++ x)) := by
  have e : (⟨#[32]⟩ : ByteArray) = tx [32] := rfl
  rw [e, tx_app, tx_app, tx_app, tx_app]
theorem var_app (m x : List UInt8) : tx m ++ ((⟨#[32, 118, 97, 114, 32]⟩ : ByteArray) ++ tx x) = tx (m ++ ([32, 118, 97, 114, 32] ++ x)) := by
  have e : (⟨#[32, 118, 97, 114, 32]⟩ : ByteArray) = tx [32, 118, 97, 114, 32] := rfl
  rw [e, tx_app, tx_app]
theorem OptR.drewN {f : Nat → List UInt8} {v : Value} {b gN gV : Nat} {w0 w : World} (h : OptR f v b gN gV w0 w) (n : Nat) : OptR f v b gN gV w0 (w.drewN n) := h.below ⟨rfl, rfl, rfl, Nat.le_refl _, fun _ _ => rfl⟩
theorem vals_eq (f : Nat → List UInt8) (i : Nat) (hi : i < 3) : [f 2, f 3, f 4].getD i [] = f (2 + i) := by
  have : i = 0 ∨ i = 1 ∨ i = 2 := by omega
  rcases this with rfl | rfl | rfl <;> rfl
set_option maxRecDepth 100000 in
theorem optText_any (f : Nat → List UInt8) (v : Value) (l : List (List UInt8)) (w : World) (h : TextsAt w v l) (hok : OptOk f l) :
    Calls Try.prog 8 #[optV f v] w fun e w' => e = .returned (.string (tx (endT f l l.length))) ∧ Below w.heap.size w w' := by
  have hone : v.cells = #[v] := by
    rcases h with ⟨a0, c0, rfl, _⟩ | ⟨g, o, cap, rfl, _⟩ <;> rfl
  have hO := optAt_new f v w
  have hh : ((⟨#[111, 112, 116, 105, 111, 110, 32, 110, 97, 109, 101, 32]⟩ : ByteArray) ++ tx (f 0) ++ (⟨#[32, 116, 121, 112, 101, 32]⟩ : ByteArray) ++ tx (f 1)) = tx (headT f) := by
    have e1 : (⟨#[111, 112, 116, 105, 111, 110, 32, 110, 97, 109, 101, 32]⟩ : ByteArray) = tx [111, 112, 116, 105, 111, 110, 32, 110, 97, 109, 101, 32] := rfl
    have e2 : (⟨#[32, 116, 121, 112, 101, 32]⟩ : ByteArray) = tx [32, 116, 121, 112, 101, 32] := rfl
    rw [e1, e2, tx_app, tx_app, tx_app]; rfl
  have l0 := hok.fs 0 (by omega)
  have l1 := hok.fs 1 (by omega)
  replace hO := Lib.hid hO
  replace hh := Lib.hid hh
  replace hok := Lib.hid hok
  replace h := Lib.hid h
  unfold optV
  go_enter Try.func8, Try.ntmps8
  go_wp2
  rw [hh.out]
  have hS := hO.out
  clear hO hh l0 l1 hone
  generalize (w.alloc (.cells #[.string (tx (f 0)), .string (tx (f 1)), .string (tx (f 2)), .string (tx (f 3)), .string (tx (f 4)), v] 24)) = w1 at *
  have hd : ∀ u : World, OptAt f v w.heap.size w u → OptAt f v w.heap.size w u.drew := fun u h => h.below ⟨rfl, rfl, rfl, Nat.le_refl _, fun _ _ => rfl⟩
  refine wp_region_held_drew (S := OptAt f v w.heap.size w) (by kernel_rfl) (hd _ hS) (fun hHeld => ?_)
  clear hS hd
  (refine wpAnyH_take (i := 1) (v := ?_) rfl (by kernel_rfl) (by kernel_rfl) (by kernel_rfl) (fun _ _ _ h => h) (Or.inl ⟨by rfl, ?_⟩) (by assumption) ?_; rotate_left; · (intro w hSw; go_simp; try with_reducible rfl)); try simp only [List.getElem_toArray, List.getElem_cons_succ, List.getElem_cons_zero, Act.put, List.setIfInBounds_toArray, List.set_cons_zero, List.set_cons_succ]
  refine wpAnyH_take (i := 2) (v := ?_) rfl (by kernel_rfl) (by kernel_rfl) (by kernel_rfl) (fun _ _ _ h => h) (Or.inl ⟨by rfl, ?_⟩) (by assumption) ?_
  rotate_left
  · (intro w hSw; have hF := hSw.2.1 2 (by omega); go_simp; try with_reducible rfl)
  try simp only [List.getElem_toArray, List.getElem_cons_succ, List.getElem_cons_zero, Act.put, List.setIfInBounds_toArray, List.set_cons_zero, List.set_cons_succ]
  (refine wpAnyH_take (i := 3) (v := ?_) rfl (by kernel_rfl) (by kernel_rfl) (by kernel_rfl) (fun _ _ _ h => h) (Or.inl ⟨by rfl, ?_⟩) (by assumption) ?_; rotate_left; · (intro w hSw; go_simp; try with_reducible rfl)); try simp only [List.getElem_toArray, List.getElem_cons_succ, List.getElem_cons_zero, Act.put, List.setIfInBounds_toArray, List.set_cons_zero, List.set_cons_succ]
  refine wpAnyH_take (i := 4) (v := ?_) rfl (by kernel_rfl) (by kernel_rfl) (by kernel_rfl) (fun _ _ _ h => h) (Or.inl ⟨by rfl, ?_⟩) (by assumption) ?_
  rotate_left
  · (intro w hSw; have hF := hSw.2.1 3 (by omega); go_simp; try with_reducible rfl)
  try simp only [List.getElem_toArray, List.getElem_cons_succ, List.getElem_cons_zero, Act.put, List.setIfInBounds_toArray, List.set_cons_zero, List.set_cons_succ]
  (refine wpAnyH_take (i := 5) (v := ?_) rfl (by kernel_rfl) (by kernel_rfl) (by kernel_rfl) (fun _ _ _ h => h) (Or.inl ⟨by rfl, ?_⟩) (by assumption) ?_; rotate_left; · (intro w hSw; go_simp; try with_reducible rfl)); try simp only [List.getElem_toArray, List.getElem_cons_succ, List.getElem_cons_zero, Act.put, List.setIfInBounds_toArray, List.set_cons_zero, List.set_cons_succ]
  refine wpAnyH_take (i := 6) (v := ?_) rfl (by kernel_rfl) (by kernel_rfl) (by kernel_rfl) (fun _ _ _ h => h) (Or.inl ⟨by rfl, ?_⟩) (by assumption) ?_
  rotate_left
  · (intro w hSw; have hF := hSw.2.1 4 (by omega); go_simp; try with_reducible rfl)
  try simp only [List.getElem_toArray, List.getElem_cons_succ, List.getElem_cons_zero, Act.put, List.setIfInBounds_toArray, List.set_cons_zero, List.set_cons_succ]
  generalize w1.drew = w2 at *
  refine wpAnyH_ready (rs := [0, 7]) (by kernel_rfl) (by simp) ?_
  refine AllReadyH.cons rfl (fun K hK => ?_) (AllReadyH.cons rfl (fun K hK => ?_) AllReadyH.nil)
  · go_simp
    have hb2 : Below w2.heap.size w2 (w2.alloc (.cells #[.string (tx (nameT 0)), .string (tx (nameT 1)), .string (tx (nameT 2))] 9)) := (Below.refl _ _).alloc (Nat.le_refl _) _
    have hb3 : Below (w2.heap.size + 1) (w2.alloc (.cells #[.string (tx (nameT 0)), .string (tx (nameT 1)), .string (tx (nameT 2))] 9)) ((w2.alloc (.cells #[.string (tx (nameT 0)), .string (tx (nameT 1)), .string (tx (nameT 2))] 9)).alloc (.cells #[.string (tx (f 2)), .string (tx (f 3)), .string (tx (f 4))] 9)) := (Below.refl _ _).alloc (by simp) _
    have hb3' : Below (w2.alloc (.cells #[.string (tx (nameT 0)), .string (tx (nameT 1)), .string (tx (nameT 2))] 9)).heap.size (w2.alloc (.cells #[.string (tx (nameT 0)), .string (tx (nameT 1)), .string (tx (nameT 2))] 9)) ((w2.alloc (.cells #[.string (tx (nameT 0)), .string (tx (nameT 1)), .string (tx (nameT 2))] 9)).alloc (.cells #[.string (tx (f 2)), .string (tx (f 3)), .string (tx (f 4))] 9)) := (Below.refl _ _).alloc (Nat.le_refl _) _
    have c1 : ∀ i, i < 3 → ((w2.alloc (.cells #[.string (tx (nameT 0)), .string (tx (nameT 1)), .string (tx (nameT 2))] 9)).alloc (.cells #[.string (tx (f 2)), .string (tx (f 3)), .string (tx (f 4))] 9)).cell? ⟨w2.heap.size, i, none⟩ = some (.string (tx (nameT i))) := fun i hi => (three_cells w2 (nameT 0) (nameT 1) (nameT 2) _ hb3 i hi).trans (by have : i = 0 ∨ i = 1 ∨ i = 2 := (by omega); rcases this with rfl | rfl | rfl <;> rfl)
    have c2 : ∀ i, i < 3 → ((w2.alloc (.cells #[.string (tx (nameT 0)), .string (tx (nameT 1)), .string (tx (nameT 2))] 9)).alloc (.cells #[.string (tx (f 2)), .string (tx (f 3)), .string (tx (f 4))] 9)).cell? ⟨w2.heap.size + 1, i, none⟩ = some (.string (tx (f (2 + i)))) := fun i hi => by
      have := three_cells (w2.alloc (.cells #[.string (tx (nameT 0)), .string (tx (nameT 1)), .string (tx (nameT 2))] 9)) (f 2) (f 3) (f 4) _ (Below.refl _ _) i hi
      rw [World.size_alloc, vals_eq f i hi] at this
      exact this
    have hR : OptR f v w.heap.size w2.heap.size (w2.heap.size + 1) w ((w2.alloc (.cells #[.string (tx (nameT 0)), .string (tx (nameT 1)), .string (tx (nameT 2))] 9)).alloc (.cells #[.string (tx (f 2)), .string (tx (f 3)), .string (tx (f 4))] 9)) := ⟨(hHeld.below hb2).below hb3', by simp; omega, by simp, c1, c2⟩
    clear c1 c2 hb3
    refine hK.out _ _ (hHeld.below hb2) (fun hHeld => ?_)
    clear hK K
    try simp only [List.getElem_toArray, List.getElem_cons_succ, List.getElem_cons_zero, Act.put, List.setIfInBounds_toArray, List.set_cons_zero, List.set_cons_succ]
    (refine wpAnyH_take (i := 8) (v := ?_) rfl (by kernel_rfl) (by kernel_rfl) (by kernel_rfl) (fun _ _ _ h => h) (Or.inl ⟨by rfl, ?_⟩) (by assumption) ?_; rotate_left; · (intro w hSw; go_simp; try with_reducible rfl)); try simp only [List.getElem_toArray, List.getElem_cons_succ, List.getElem_cons_zero, Act.put, List.setIfInBounds_toArray, List.set_cons_zero, List.set_cons_succ]
    refine wpAnyH_ready (rs := [7]) (by kernel_rfl) (by simp) ?_
    refine AllReadyH.cons rfl (fun K hK => ?_) AllReadyH.nil
    go_simp
    refine hK.out _ _ (hHeld.below hb3') (fun hHeld => ?_)
    clear hK K
    try simp only [List.getElem_toArray, List.getElem_cons_succ, List.getElem_cons_zero, Act.put, List.setIfInBounds_toArray, List.set_cons_zero, List.set_cons_succ]
    (refine wpAnyH_take (i := 9) (v := ?_) rfl (by kernel_rfl) (by kernel_rfl) (by kernel_rfl) (fun _ _ _ h => h) (Or.inl ⟨by rfl, ?_⟩) (by assumption) ?_; rotate_left; · (intro w hSw; go_simp; try with_reducible rfl)); try simp only [List.getElem_toArray, List.getElem_cons_succ, List.getElem_cons_zero, Act.put, List.setIfInBounds_toArray, List.set_cons_zero, List.set_cons_succ]
    refine wpAnyH_done (by kernel_rfl) ?_ _
    replace hR := Lib.hid hR
    clear hHeld hb2 hb3'
    change Exit.then _ _ Exit.normal _ ((w2.alloc (.cells #[.string (tx (nameT 0)), .string (tx (nameT 1)), .string (tx (nameT 2))] 9)).alloc (.cells #[.string (tx (f 2)), .string (tx (f 3)), .string (tx (f 4))] 9))
    replace hR := hR.out
    generalize ((w2.alloc (.cells #[.string (tx (nameT 0)), .string (tx (nameT 1)), .string (tx (nameT 2))] 9)).alloc (.cells #[.string (tx (f 2)), .string (tx (f 3)), .string (tx (f 4))] 9)) = w3 at *
    generalize w2.heap.size + 1 = gV at *
    generalize w2.heap.size = gN at *
    go_wp2
    go_loopw [3, 6] (fun s i wr => ∃ k : Nat, k ≤ 3 ∧ i = .int .i64 k ∧ s = .string (tx (midT f k)) ∧ OptR f v w.heap.size gN gV w wr) (fun _ i _ => 3 - (intOf i).toNat)
    case atStart => exact ⟨0, by omega, rfl, rfl, hR⟩
    case round =>
      clear hR
      obtain ⟨k, hk, rfl, rfl, hR⟩ := hrel
      by_cases hlt : k < 3
      · have cN := hR.2.2.2.1 k hlt
        have cV := hR.2.2.2.2 k hlt
        have hm : midT f (k + 1) = midT f k ++ if f (2 + k) = [] then [] else [32] ++ nameT k ++ [32] ++ f (2 + k) := rfl
        have lm := midT_len hok.out k (by omega)
        have lx := hok.out.fs (2 + k) (by omega)
        have ln : (nameT k).length ≤ 7 := by
          have : k = 0 ∨ k = 1 ∨ k = 2 := by omega
          rcases this with rfl | rfl | rfl <;> simp [nameT]
        replace hR := Lib.hid hR
        by_cases he : f (2 + k) = []
        · rw [if_pos he, List.append_nil] at hm
          have hx : (f (2 + k)).isEmpty = true := by rw [he]; rfl
          replace hm := Lib.hid hm
          clear he
          generalize f (2 + k) = x at *
          go_wp2
          go_roundw
          case rel => exact ⟨k + 1, by omega, by go_num, by rw [hm.out], hR.out⟩
          case measure => simp [intOf]; omega
        · rw [if_neg he] at hm
          have hx : (f (2 + k)).isEmpty = false := by simpa using he
          replace hm := Lib.hid hm
          clear he
          generalize f (2 + k) = x at *
          generalize nameT k = y at *
          go_wp2
          go_quiet (fail)
          go_wp2
          exact ⟨⟨k + 1, by omega, by go_num, by rw [hm.out, mid_app], hR.out.drewN _⟩, by simp [intOf]; omega⟩
      · obtain rfl : k = 3 := by omega
        rcases h.out with ⟨a0, c0, rfl, rfl, _⟩ | ⟨g, o, cap, rfl, hg, hcells⟩
        · have c5 := hR.1.2.2.1
          replace hR := Lib.hid hR
          go_wp2
          go_loopw [3, 7] (fun s i wr => s = .string (tx (midT f 3)) ∧ i = .int .i64 0 ∧ OptR f (.slice a0 0 c0) w.heap.size gN gV w wr) (fun _ _ _ => 0)
          case atStart => exact ⟨rfl, rfl, hR.out⟩
          case round =>
            clear c5 hR
            obtain ⟨rfl, rfl, hR⟩ := hrel
            have c5 := hR.1.2.2.1
            replace hR := Lib.hid hR
            go_wp2
            go_ret
            exact ⟨rfl, hR.out.1.2.2.2⟩
        · have c5 := hR.1.2.2.1
          replace hR := Lib.hid hR
          replace hcells := Lib.hid hcells
          go_wp2
          go_loopw [3, 7] (fun s i wr => ∃ j : Nat, j ≤ l.length ∧ i = .int .i64 j ∧ s = .string (tx (endT f l j)) ∧ OptR f (.slice (some ⟨g, o, none⟩) l.length cap) w.heap.size gN gV w wr) (fun _ i _ => l.length - (intOf i).toNat)
          case atStart => exact ⟨0, by omega, rfl, rfl, hR.out⟩
          case round =>
            clear c5 hR
            obtain ⟨j, hj, rfl, rfl, hR⟩ := hrel
            have c5 := hR.1.2.2.1
            by_cases hlt2 : j < l.length
            · have cj : wr.cell? ⟨g, o + j, none⟩ = some (.string (tx (l.getD j []))) := by rw [hR.1.2.2.2.cell (show (⟨g, o + j, none⟩ : Addr).block < w.heap.size from hg)]; exact hcells.out j hlt2
              have hm : endT f l (j + 1) = endT f l j ++ ([32, 118, 97, 114, 32] ++ l.getD j []) := rfl
              have lm := endT_len hok.out j (by omega)
              have lx := hok.out.ls j hlt2
              have lf := hok.out.few
              replace hR := Lib.hid hR
              replace hm := Lib.hid hm
              generalize l.getD j [] = x at *
              go_wp2
              go_roundw
              case rel => exact ⟨j + 1, by omega, by go_num, by rw [hm.out, var_app], hR.out⟩
              case measure => simp [intOf]; omega
            · obtain rfl : j = l.length := by omega
              replace hR := Lib.hid hR
              go_wp2
              go_ret
              exact ⟨rfl, hR.out.1.2.2.2⟩
  · go_simp
    have hb2 : Below w2.heap.size w2 (w2.alloc (.cells #[.string (tx (f 2)), .string (tx (f 3)), .string (tx (f 4))] 9)) := (Below.refl _ _).alloc (Nat.le_refl _) _
    have hb3 : Below (w2.heap.size + 1) (w2.alloc (.cells #[.string (tx (f 2)), .string (tx (f 3)), .string (tx (f 4))] 9)) ((w2.alloc (.cells #[.string (tx (f 2)), .string (tx (f 3)), .string (tx (f 4))] 9)).alloc (.cells #[.string (tx (nameT 0)), .string (tx (nameT 1)), .string (tx (nameT 2))] 9)) := (Below.refl _ _).alloc (by simp) _
    have hb3' : Below (w2.alloc (.cells #[.string (tx (f 2)), .string (tx (f 3)), .string (tx (f 4))] 9)).heap.size (w2.alloc (.cells #[.string (tx (f 2)), .string (tx (f 3)), .string (tx (f 4))] 9)) ((w2.alloc (.cells #[.string (tx (f 2)), .string (tx (f 3)), .string (tx (f 4))] 9)).alloc (.cells #[.string (tx (nameT 0)), .string (tx (nameT 1)), .string (tx (nameT 2))] 9)) := (Below.refl _ _).alloc (Nat.le_refl _) _
    have c2 : ∀ i, i < 3 → ((w2.alloc (.cells #[.string (tx (f 2)), .string (tx (f 3)), .string (tx (f 4))] 9)).alloc (.cells #[.string (tx (nameT 0)), .string (tx (nameT 1)), .string (tx (nameT 2))] 9)).cell? ⟨w2.heap.size, i, none⟩ = some (.string (tx (f (2 + i)))) := fun i hi => by
      have := three_cells w2 (f 2) (f 3) (f 4) _ hb3 i hi
      rw [vals_eq f i hi] at this
      exact this
    have c1 : ∀ i, i < 3 → ((w2.alloc (.cells #[.string (tx (f 2)), .string (tx (f 3)), .string (tx (f 4))] 9)).alloc (.cells #[.string (tx (nameT 0)), .string (tx (nameT 1)), .string (tx (nameT 2))] 9)).cell? ⟨w2.heap.size + 1, i, none⟩ = some (.string (tx (nameT i))) := fun i hi => by
      have := three_cells (w2.alloc (.cells #[.string (tx (f 2)), .string (tx (f 3)), .string (tx (f 4))] 9)) (nameT 0) (nameT 1) (nameT 2) _ (Below.refl _ _) i hi
      rw [World.size_alloc] at this
      exact this.trans (by have : i = 0 ∨ i = 1 ∨ i = 2 := (by omega); rcases this with rfl | rfl | rfl <;> rfl)
    have hR : OptR f v w.heap.size (w2.heap.size + 1) w2.heap.size w ((w2.alloc (.cells #[.string (tx (f 2)), .string (tx (f 3)), .string (tx (f 4))] 9)).alloc (.cells #[.string (tx (nameT 0)), .string (tx (nameT 1)), .string (tx (nameT 2))] 9)) := ⟨(hHeld.below hb2).below hb3', by simp, by simp; omega, c1, c2⟩
    clear c1 c2 hb3
    refine hK.out _ _ (hHeld.below hb2) (fun hHeld => ?_)
    clear hK K
    try simp only [List.getElem_toArray, List.getElem_cons_succ, List.getElem_cons_zero, Act.put, List.setIfInBounds_toArray, List.set_cons_zero, List.set_cons_succ]
    refine wpAnyH_ready (rs := [0]) (by kernel_rfl) (by simp) ?_
    refine AllReadyH.cons rfl (fun K hK => ?_) AllReadyH.nil
    go_simp
    refine hK.out _ _ (hHeld.below hb3') (fun hHeld => ?_)
    clear hK K
    try simp only [List.getElem_toArray, List.getElem_cons_succ, List.getElem_cons_zero, Act.put, List.setIfInBounds_toArray, List.set_cons_zero, List.set_cons_succ]
    (refine wpAnyH_take (i := 8) (v := ?_) rfl (by kernel_rfl) (by kernel_rfl) (by kernel_rfl) (fun _ _ _ h => h) (Or.inl ⟨by rfl, ?_⟩) (by assumption) ?_; rotate_left; · (intro w hSw; go_simp; try with_reducible rfl)); try simp only [List.getElem_toArray, List.getElem_cons_succ, List.getElem_cons_zero, Act.put, List.setIfInBounds_toArray, List.set_cons_zero, List.set_cons_succ]
    (refine wpAnyH_take (i := 9) (v := ?_) rfl (by kernel_rfl) (by kernel_rfl) (by kernel_rfl) (fun _ _ _ h => h) (Or.inl ⟨by rfl, ?_⟩) (by assumption) ?_; rotate_left; · (intro w hSw; go_simp; try with_reducible rfl)); try simp only [List.getElem_toArray, List.getElem_cons_succ, List.getElem_cons_zero, Act.put, List.setIfInBounds_toArray, List.set_cons_zero, List.set_cons_succ]
    refine wpAnyH_done (by kernel_rfl) ?_ _
    replace hR := Lib.hid hR
    clear hHeld hb2 hb3'
    change Exit.then _ _ Exit.normal _ ((w2.alloc (.cells #[.string (tx (f 2)), .string (tx (f 3)), .string (tx (f 4))] 9)).alloc (.cells #[.string (tx (nameT 0)), .string (tx (nameT 1)), .string (tx (nameT 2))] 9))
    replace hR := hR.out
    generalize ((w2.alloc (.cells #[.string (tx (f 2)), .string (tx (f 3)), .string (tx (f 4))] 9)).alloc (.cells #[.string (tx (nameT 0)), .string (tx (nameT 1)), .string (tx (nameT 2))] 9)) = w3 at *
    generalize w2.heap.size + 1 = gN at *
    generalize w2.heap.size = gV at *
    go_wp2
    go_loopw [3, 6] (fun s i wr => ∃ k : Nat, k ≤ 3 ∧ i = .int .i64 k ∧ s = .string (tx (midT f k)) ∧ OptR f v w.heap.size gN gV w wr) (fun _ i _ => 3 - (intOf i).toNat)
    case atStart => exact ⟨0, by omega, rfl, rfl, hR⟩
    case round =>
      clear hR
      obtain ⟨k, hk, rfl, rfl, hR⟩ := hrel
      by_cases hlt : k < 3
      · have cN := hR.2.2.2.1 k hlt
        have cV := hR.2.2.2.2 k hlt
        have hm : midT f (k + 1) = midT f k ++ if f (2 + k) = [] then [] else [32] ++ nameT k ++ [32] ++ f (2 + k) := rfl
        have lm := midT_len hok.out k (by omega)
        have lx := hok.out.fs (2 + k) (by omega)
        have ln : (nameT k).length ≤ 7 := by
          have : k = 0 ∨ k = 1 ∨ k = 2 := by omega
          rcases this with rfl | rfl | rfl <;> simp [nameT]
        replace hR := Lib.hid hR
        by_cases he : f (2 + k) = []
        · rw [if_pos he, List.append_nil] at hm
          have hx : (f (2 + k)).isEmpty = true := by rw [he]; rfl
          replace hm := Lib.hid hm
          clear he
          generalize f (2 + k) = x at *
          go_wp2
          go_roundw
          case rel => exact ⟨k + 1, by omega, by go_num, by rw [hm.out], hR.out⟩
          case measure => simp [intOf]; omega
        · rw [if_neg he] at hm
          have hx : (f (2 + k)).isEmpty = false := by simpa using he
          replace hm := Lib.hid hm
          clear he
          generalize f (2 + k) = x at *
          generalize nameT k = y at *
          go_wp2
          go_quiet (fail)
          go_wp2
          exact ⟨⟨k + 1, by omega, by go_num, by rw [hm.out, mid_app], hR.out.drewN _⟩, by simp [intOf]; omega⟩
      · obtain rfl : k = 3 := by omega
        rcases h.out with ⟨a0, c0, rfl, rfl, _⟩ | ⟨g, o, cap, rfl, hg, hcells⟩
        · have c5 := hR.1.2.2.1
          replace hR := Lib.hid hR
          go_wp2
          go_loopw [3, 7] (fun s i wr => s = .string (tx (midT f 3)) ∧ i = .int .i64 0 ∧ OptR f (.slice a0 0 c0) w.heap.size gN gV w wr) (fun _ _ _ => 0)
          case atStart => exact ⟨rfl, rfl, hR.out⟩
          case round =>
            clear c5 hR
            obtain ⟨rfl, rfl, hR⟩ := hrel
            have c5 := hR.1.2.2.1
            replace hR := Lib.hid hR
            go_wp2
            go_ret
            exact ⟨rfl, hR.out.1.2.2.2⟩
        · have c5 := hR.1.2.2.1
          replace hR := Lib.hid hR
          replace hcells := Lib.hid hcells
          go_wp2
          go_loopw [3, 7] (fun s i wr => ∃ j : Nat, j ≤ l.length ∧ i = .int .i64 j ∧ s = .string (tx (endT f l j)) ∧ OptR f (.slice (some ⟨g, o, none⟩) l.length cap) w.heap.size gN gV w wr) (fun _ i _ => l.length - (intOf i).toNat)
          case atStart => exact ⟨0, by omega, rfl, rfl, hR.out⟩
          case round =>
            clear c5 hR
            obtain ⟨j, hj, rfl, rfl, hR⟩ := hrel
            have c5 := hR.1.2.2.1
            by_cases hlt2 : j < l.length
            · have cj : wr.cell? ⟨g, o + j, none⟩ = some (.string (tx (l.getD j []))) := by rw [hR.1.2.2.2.cell (show (⟨g, o + j, none⟩ : Addr).block < w.heap.size from hg)]; exact hcells.out j hlt2
              have hm : endT f l (j + 1) = endT f l j ++ ([32, 118, 97, 114, 32] ++ l.getD j []) := rfl
              have lm := endT_len hok.out j (by omega)
              have lx := hok.out.ls j hlt2
              have lf := hok.out.few
              replace hR := Lib.hid hR
              replace hm := Lib.hid hm
              generalize l.getD j [] = x at *
              go_wp2
              go_roundw
              case rel => exact ⟨j + 1, by omega, by go_num, by rw [hm.out, var_app], hR.out⟩
              case measure => simp [intOf]; omega
            · obtain rfl : j = l.length := by omega
              replace hR := Lib.hid hR
              go_wp2
              go_ret
              exact ⟨rfl, hR.out.1.2.2.2⟩
end Go.Proofs.Ytkbbncobgmepbaa

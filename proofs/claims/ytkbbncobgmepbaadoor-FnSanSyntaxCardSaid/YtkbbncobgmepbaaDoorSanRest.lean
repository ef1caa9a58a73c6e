/- Standard algebraic notation: the reference's rest of a text. -/
import Derived.Test.YtkbbncobgmepbaaDoorSanSpec
import Derived.Deep.Cut
namespace Go.Proofs.YtkbbncobgmepbaaDoor
open Go.ChangeShapes Go.WideShapes Go.ChangeAt Go.RowKit Go.PlainAid
set_option maxHeartbeats 4000000
set_option linter.unusedVariables false
set_option linter.unusedSimpArgs false
attribute [local go_sem] tx_list tx_size

def ofS (k : Nat) : List UInt8 := [fileS, digS, xS].getD k []
def bitN (n k : Nat) : Nat := n / 2 ^ k % 2
def offN (n : Nat) : Nat → Nat
  | 0 => 0
  | k + 1 => offN n k + bitN n k
theorem offN_le (n : Nat) : ∀ k, offN n k ≤ k
  | 0 => Nat.le_refl _
  | k + 1 => by have := offN_le n k; unfold offN bitN; omega
/-- The parts behind k of the three. -/
def restT (L : List UInt8) (a n k j : Nat) : List UInt8 := if j < k then mid L (a + offN n j) (a + offN n (j + 1)) else []
def restOk (L : List UInt8) (a n k : Nat) : Prop := ∀ j, j < k → bitN n j = 1 → has (ofS j) L (a + offN n j) = true
theorem bit_cases (n k : Nat) : bitN n k = 0 ∨ bitN n k = 1 := by unfold bitN; omega
theorem restT_skip {L : List UInt8} {a n k : Nat} (h : bitN n k = 0) (j : Nat) : restT L a n (k + 1) j = restT L a n k j := by
  unfold restT
  by_cases e : j < k
  · rw [if_pos e, if_pos (by omega)]
  · rw [if_neg e]
    by_cases e2 : j = k
    · subst e2
      rw [if_pos (by omega)]
      show mid L (a + offN n j) (a + (offN n j + bitN n j)) = []
      rw [h]; unfold mid
      rw [List.drop_eq_nil_of_le (by rw [List.length_take]; omega)]
    · rw [if_neg (by omega)]
theorem restT_take {L : List UInt8} {a n k : Nat} (h : bitN n k = 1) (hh : has (ofS k) L (a + offN n k) = true) (j : Nat) : restT L a n (k + 1) j = if j = k then oneT (ofS k) L (a + offN n k) else restT L a n k j := by
  unfold restT
  by_cases e2 : j = k
  · subst e2
    rw [if_pos (by omega), if_pos rfl]
    unfold oneT
    rw [oneB_yes hh]
    show mid L (a + offN n j) (a + (offN n j + bitN n j)) = _
    rw [h, Nat.add_assoc]
  · rw [if_neg e2]
    by_cases e : j < k
    · rw [if_pos e, if_pos (by omega)]
    · rw [if_neg e, if_neg (by omega)]
theorem restOk_succ {L : List UInt8} {a n k : Nat} (h : restOk L a n k) (hk : bitN n k = 1 → has (ofS k) L (a + offN n k) = true) : restOk L a n (k + 1) := fun j hj hb => by
  rcases Nat.lt_succ_iff_lt_or_eq.1 hj with h1 | rfl
  · exact h j h1 hb
  · exact hk hb
theorem bit_test (n k : Nat) : ((n : Int) / 2 ^ k).tmod 2 = (bitN n k : Nat) := by
  have e : ((n : Int) / 2 ^ k) = ((n / 2 ^ k : Nat) : Int) := by simp
  rw [e, Int.tmod_eq_emod_of_nonneg (Int.natCast_nonneg _)]
  unfold bitN; omega
theorem bit_yes {n k : Nat} (h : bitN n k = 1) : (((n : Int) / 2 ^ k).tmod 2 == 0) = false := by rw [bit_test, h]; rfl
theorem bit_no {n k : Nat} (h : bitN n k = 0) : (((n : Int) / 2 ^ k).tmod 2 == 0) = true := by rw [bit_test, h]; rfl
def tV (T : Nat → List UInt8) (j : Nat) : Value := .string (tx (T j))
/-- What the rest's function holds: the answer's block, its own parts, the sets. -/
def RestW (T : Nat → List UInt8) (w0 w : World) : Prop :=
  (∃ F, w.rowIs w0.heap.size 44 6 F) ∧ w.rowIs (w0.heap.size + 1) 44 6 (tV T) ∧ (∀ k, k < 3 → w.cell? ⟨w0.heap.size + 1 + 1, k, none⟩ = some (.string (tx (ofS k)))) ∧ Below w0.heap.size w0 w ∧ w0.heap.size + 1 + 1 < w.heap.size
theorem RestW.below {T : Nat → List UInt8} {w0 w w' : World} (h : RestW T w0 w) (hb : Below w.heap.size w w') : RestW T w0 w' := by
  obtain ⟨⟨F, h1⟩, h2, h3, h4, h5⟩ := h
  exact ⟨⟨F, rowIs_below h1 hb h1.lt⟩, rowIs_below h2 hb h2.lt, fun k hk => by rw [hb.cell (show (⟨w0.heap.size + 1 + 1, k, none⟩ : Addr).block < w.heap.size from h5)]; exact h3 k hk, h4.trans (hb.mono h4.size), Nat.lt_of_lt_of_le h5 hb.size⟩
theorem RestW.congr {T T' : Nat → List UInt8} {w0 w : World} (h : RestW T w0 w) (e : ∀ j, j < 6 → T j = T' j) : RestW T' w0 w := by
  obtain ⟨h1, h2, h3⟩ := h
  exact ⟨h1, h2.congr fun j hj => by unfold tV; rw [e j hj], h3⟩
theorem RestW.put {T : Nat → List UInt8} {w0 w : World} (h : RestW T w0 w) (k : Nat) (x : List UInt8) : RestW (fun j => if j = k then x else T j) w0 (w.setCell ⟨w0.heap.size + 1, k, none⟩ (.string (tx x))) := by
  obtain ⟨⟨F, h1⟩, h2, h3, h4, h5⟩ := h
  refine ⟨⟨F, h1.setOther (by simp) _⟩, (h2.set k _).congr fun j hj => ?_, fun k' hk' => ?_, h4.setCell (by simp) _, by simp; omega⟩
  · unfold tV
    show _ = Value.string (tx (if j = k then x else T j))
    by_cases e : j = k
    · rw [if_pos e, if_pos e]
    · rw [if_neg e, if_neg e]
  · rw [World.cell?_of_block (a := ⟨w0.heap.size + 1 + 1, k', none⟩) (Below.heap_setCell _ _ _ _ (by simp))]; exact h3 k' hk'
theorem RestW.cells {T : Nat → List UInt8} {w0 w : World} (h : RestW T w0 w) : w.cell? ⟨w0.heap.size + 1, 0, none⟩ = some (.string (tx (T 0))) ∧ w.cell? ⟨w0.heap.size + 1, 1, none⟩ = some (.string (tx (T 1))) ∧ w.cell? ⟨w0.heap.size + 1, 2, none⟩ = some (.string (tx (T 2))) ∧ w.cell? ⟨w0.heap.size + 1, 3, none⟩ = some (.string (tx (T 3))) ∧ w.cell? ⟨w0.heap.size + 1, 4, none⟩ = some (.string (tx (T 4))) ∧ w.cell? ⟨w0.heap.size + 1, 5, none⟩ = some (.string (tx (T 5))) :=
  ⟨h.2.1.cell (i := 0) (by omega), h.2.1.cell (i := 1) (by omega), h.2.1.cell (i := 2) (by omega), h.2.1.cell (i := 3) (by omega), h.2.1.cell (i := 4) (by omega), h.2.1.cell (i := 5) (by omega)⟩
def sixA (T : Nat → List UInt8) : Array Value := #[.string (tx (T 0)), .string (tx (T 1)), .string (tx (T 2)), .string (tx (T 3)), .string (tx (T 4)), .string (tx (T 5))]
theorem six_row {b t : Nat} {T : Nat → List UInt8} {w : World} {F : Nat → Value} (h : w.rowIs b t 6 F) : (w.setCells b 0 (sixA T).toList).rowIs b t 6 (tV T) :=
  (rowIs_whole h rfl).congr fun j hj => by
    have : j = 0 ∨ j = 1 ∨ j = 2 ∨ j = 3 ∨ j = 4 ∨ j = 5 := by omega
    rcases this with rfl | rfl | rfl | rfl | rfl | rfl <;> rfl
theorem RestW.there {T : Nat → List UInt8} {w0 w : World} (h : RestW T w0 w) : w.there w0.heap.size 0 6 := by
  obtain ⟨⟨F, h1⟩, _⟩ := h
  exact rowIs_there h1
/-- Behind the store of the answer. -/
theorem RestW.answer {T : Nat → List UInt8} {w0 w : World} (h : RestW T w0 w) : (w.setCells w0.heap.size 0 (sixA T).toList).rowIs w0.heap.size 44 6 (tV T) ∧ Below w0.heap.size w0 (w.setCells w0.heap.size 0 (sixA T).toList) := by
  obtain ⟨⟨F, h1⟩, _, _, h4, _⟩ := h
  exact ⟨six_row h1, below_setCells (Nat.le_refl _) _ _ _ h4⟩
def six0 : Array Value := #[.string ⟨#[]⟩, .string ⟨#[]⟩, .string ⟨#[]⟩, .string ⟨#[]⟩, .string ⟨#[]⟩, .string ⟨#[]⟩]
theorem six0_get (i : Nat) (h : i < 6) : six0[i]? = some (.string ⟨#[]⟩) := by
  have : i = 0 ∨ i = 1 ∨ i = 2 ∨ i = 3 ∨ i = 4 ∨ i = 5 := by omega
  rcases this with rfl | rfl | rfl | rfl | rfl | rfl <;> rfl
def restW0 (w : World) : World := ((w.alloc (.cells six0 44)).alloc (.cells six0 44)).alloc (.cells #[.string (tx fileS), .string (tx digS), .string (tx xS)] 9)
theorem restW_new (w : World) (L : List UInt8) (a n : Nat) : RestW (restT L a n 0) w (restW0 w) := by
  have h1 := World.rowIs_alloc w six0 44 (fun _ => .string ⟨#[]⟩) (fun i hi => six0_get i hi)
  have h2 := World.rowIs_alloc (w.alloc (.cells six0 44)) six0 44 (fun _ => .string ⟨#[]⟩) (fun i hi => six0_get i hi)
  rw [World.size_alloc] at h2
  refine ⟨⟨_, (h1.alloc _).alloc _⟩, (h2.alloc _).congr fun j hj => ?_, fun k hk => ?_, (((Below.refl _ _).alloc (Nat.le_refl _) _).alloc (by simp) _).alloc (by simp; omega) _, by simp [restW0]⟩
  · unfold tV restT; rw [if_neg (by omega)]; rfl
  · have : k = 0 ∨ k = 1 ∨ k = 2 := by omega
    rcases this with rfl | rfl | rfl <;> simp [restW0, go_sem, ofS]
def pN (L : List UInt8) (e : Nat) : Nat := if has eqS L e && has promS L (e + 1) then 2 else 0
/-- That the rest of a text is right but for what stands behind it. -/
def restYes (L : List UInt8) (a n : Nat) : Prop := restOk L a n 3 ∧ has fileS L (a + offN n 3) = true ∧ has digS L (a + offN n 3 + 1) = true
def restAll (L : List UInt8) (a n : Nat) (j : Nat) : List UInt8 := if j = 5 then mid L (a + offN n 3 + 2) (a + offN n 3 + 2 + pN L (a + offN n 3 + 2)) else if j = 4 then oneT digS L (a + offN n 3 + 1) else if j = 3 then oneT fileS L (a + offN n 3) else restT L a n 3 j
def RestPost (L : List UInt8) (a n : Nat) (w : World) (e : Ending) (w' : World) : Prop :=
  ((restYes L a n ∧ e = .returned (.tuple #[.agg (sixA (restAll L a n)), .int .i64 ((a + offN n 3 + 2 + pN L (a + offN n 3 + 2) : Nat) : Int)])) ∨ (¬ restYes L a n ∧ ∃ T, e = .returned (.tuple #[.agg (sixA T), .int .i64 0]))) ∧ Below w.heap.size w w'
theorem held_two {P : Program} {ops : Array Oper} {Q : Exit → Act → World → Prop} {S R : World → Prop} {id : Nat} {a : Act} {w : World} (hm : P.follows .mixedOrders = true) (hS : S w.drew) (hR : R w.drew)
    (h : ∀ wA, R wA → S wA → wpAnyH P .any ops Q S ops.size (Array.replicate ops.size false) a wA) : (Code.region id ops true).wp P Q a w := wp_region_held_drew hm hS (fun hh => h _ hR hh)
def RestS (w0 w : World) : Prop := ∃ T, RestW T w0 w
theorem RestS.sets {w0 w : World} (h : RestS w0 w) : w.cell? ⟨w0.heap.size + 1 + 1, 0, none⟩ = some (.string (tx fileS)) ∧ w.cell? ⟨w0.heap.size + 1 + 1, 1, none⟩ = some (.string (tx digS)) := by
  obtain ⟨T, h⟩ := h
  exact ⟨h.2.2.1 0 (by omega), h.2.2.1 1 (by omega)⟩
theorem one_empty (S L : List UInt8) (i : Nat) : (oneT S L i).isEmpty = !has S L i := by
  cases hh : has S L i
  · rw [oneT_no hh]; rfl
  · have hl := has_lt hh
    unfold oneT mid
    rw [oneB_yes hh]
    show _ = false
    rw [List.isEmpty_eq_false_iff]
    intro e
    have := congrArg List.length e
    rw [List.length_drop, List.length_take] at this
    simp at this; omega
set_option maxRecDepth 100000 in
theorem sanRest_any (L : List UInt8) (hL : L.length ≤ 100) (a n : Nat) (ha : a ≤ 1) (hn : n < 8) (w : World) :
    Calls Tryd.prog 22 #[.string (tx L), .int .i64 (a : Int), .int .i64 (n : Int)] w fun e w' => RestPost L a n w e w' := by
  have hL1 : L.length ≤ 1000 := by omega
  have hW := restW_new w L a n
  go_enter Tryd.func22, Tryd.ntmps22
  go_wp2_with (fail)
  have hW' : RestW (restT L a n 0) w (restW0 w) := hW
  unfold restW0 six0 fileS digS xS at hW
  change Code.wp _ _ _ _ (restW0 w)
  generalize restW0 w = w1 at *
  clear hW
  go_loopw [10, 1] (fun i at_ wr => ∃ k : Nat, k ≤ 3 ∧ i = .int .i64 k ∧ at_ = .int .i64 ((a + offN n k : Nat) : Int) ∧ restOk L a n k ∧ RestW (restT L a n k) w wr) (fun i _ _ => 3 - (intOf i).toNat)
  case atStart => exact ⟨0, by omega, rfl, by simp [offN], fun j hj => by omega, hW'⟩
  case round =>
    clear hW'
    obtain ⟨k, hk, rfl, rfl, hok, hW⟩ := hrel
    have hol := offN_le n k
    by_cases hlt : k < 3
    · rcases bit_cases n k with hb | hb
      · have hbt := bit_no hb
        have hnext := Lib.hid (show (a + offN n k = a + offN n (k + 1)) ∧ restOk L a n (k + 1) ∧ RestW (restT L a n (k + 1)) w wr from ⟨by show _ = a + (offN n k + bitN n k); omega, restOk_succ hok (fun h => by omega), hW.congr fun j _ => (restT_skip hb j).symm⟩)
        clear hok hW
        replace hb := Lib.hid hb
        go_wp2_with (fail)
        exact ⟨⟨k + 1, by omega, by go_num, by rw [hnext.out.1], hnext.out.2.1, hnext.out.2.2⟩, by simp [intOf]; omega⟩
      · have hbt := bit_yes hb
        have ck := hW.2.2.1 k hlt
        have hc := hW.2.1.cell (i := k) (by omega)
        have hf := hW.2.1.frozen k
        have hone := Lib.hid (fun w => sanOne_any (ofS k) L (by have : k = 0 ∨ k = 1 ∨ k = 2 := (by omega); rcases this with rfl | rfl | rfl <;> decide) hL1 _ (a + offN n k) rfl (by omega) w)
        have hput := hW.put k (oneT (ofS k) L (a + offN n k))
        have hsame : (fun j => if j = k then oneT (ofS k) L (a + offN n k) else restT L a n k j) k = oneT (ofS k) L (a + offN n k) := by simp
        cases hh : has (ofS k) L (a + offN n k)
        · have hno := Lib.hid (show ¬ restYes L a n from fun h => by have := h.1 k hlt hb; rw [hh] at this; cases this)
          have hx : (oneT (ofS k) L (a + offN n k)).isEmpty = true := by rw [oneT_no hh]; rfl
          clear hok hW hh
          replace hb := Lib.hid hb
          replace hsame := Lib.hid hsame
          generalize (fun j => if j = k then oneT (ofS k) L (a + offN n k) else restT L a n k j) = T' at *
          generalize oneT (ofS k) L (a + offN n k) = x at *
          generalize ofS k = S at *
          generalize restT L a n k = T at *
          unfold tV at hc
          replace hput := Lib.hid hput
          go_upto_region 8 with (go_at_call 41; refine (hone.out _).mono ?_; rintro e w' ⟨rfl, rfl⟩)
          replace hput := hput.out
          generalize World.setCell _ _ _ = wS at *
          clear hc hf ck
          have hck := hput.2.1.cell (i := k) (by omega)
          unfold tV at hck
          rw [hsame.out] at hck
          obtain ⟨c0, c1, c2, c3, c4, c5⟩ := hput.cells
          have hth := Lib.hid hput.there
          have hans := Lib.hid hput.answer
          clear hput
          go_wp2_with (refine wpList_store_mid rfl 44 _ _ rfl w.heap.size 0 (sixA T') rfl rfl hth.out (by kernel_rfl) (by simp [sixA, Value.oneCell']) ?_)
          obtain ⟨hrA, hBA⟩ := hans.out
          generalize wS.setCells w.heap.size 0 (sixA T').toList = wB at *
          have d0 := hrA.cell (i := 0) (by omega)
          have d1 := hrA.cell (i := 1) (by omega)
          have d2 := hrA.cell (i := 2) (by omega)
          have d3 := hrA.cell (i := 3) (by omega)
          have d4 := hrA.cell (i := 4) (by omega)
          have d5 := hrA.cell (i := 5) (by omega)
          replace hBA := Lib.hid hBA
          clear hrA hck c0 c1 c2 c3 c4 c5
          exact bodyPost_ret (v := .tuple #[.agg (sixA T'), .int .i64 0]) (by simp [results, Tryd.results22, go_sem, d0, d1, d2, d3, d4, d5]; rfl) rfl ⟨.inr ⟨hno.out, T', rfl⟩, hBA.out⟩
        · have hnext := Lib.hid (show (a + offN n k + 1 = a + offN n (k + 1)) ∧ restOk L a n (k + 1) ∧ RestW (restT L a n (k + 1)) w (wr.setCell ⟨w.heap.size + 1, k, none⟩ (.string (tx (oneT (ofS k) L (a + offN n k))))) from ⟨by show _ = a + (offN n k + bitN n k); omega, restOk_succ hok (fun _ => hh), hput.congr fun j _ => (restT_take hb hh j).symm⟩)
          have hx : (oneT (ofS k) L (a + offN n k)).isEmpty = false := by
            have hl := has_lt hh
            unfold oneT mid
            rw [oneB_yes hh, List.isEmpty_eq_false_iff]
            intro e
            have := congrArg List.length e
            rw [List.length_drop, List.length_take] at this
            simp at this; omega
          clear hok hW hh hput hsame
          replace hb := Lib.hid hb
          generalize hxe : oneT (ofS k) L (a + offN n k) = x at *
          generalize ofS k = S at *
          generalize restT L a n k = T at *
          unfold tV at hc
          clear hxe
          go_wp2_with (go_at_call 41; refine (hone.out _).mono ?_; rintro e w' ⟨rfl, rfl⟩)
          exact ⟨⟨k + 1, by omega, by go_num, by rw [← hnext.out.1]; go_num, hnext.out.2.1, hnext.out.2.2⟩, by simp [intOf]; omega⟩
    · obtain rfl : k = 3 := by omega
      have hone3 := fun w => sanOne_any fileS L (by decide) hL1 _ (a + offN n 3) rfl (by omega) w
      have hone4 := fun w => sanOne_any digS L (by decide) hL1 (((a + offN n 3 : Nat) : Int) + 1) (a + offN n 3 + 1) (by omega) (by omega) w
      have hyes : has fileS L (a + offN n 3) = true → has digS L (a + offN n 3 + 1) = true → restYes L a n := fun h1 h2 => ⟨hok, h1, h2⟩
      have hno1 : has fileS L (a + offN n 3) = false → ¬ restYes L a n := fun h1 h => by have := h.2.1; rw [h1] at this; cases this
      have hno2 : has digS L (a + offN n 3 + 1) = false → ¬ restYes L a n := fun h1 h => by have := h.2.2; rw [h1] at this; cases this
      have hall : ∀ j, j < 6 → restAll L a n j = if j = 5 then mid L (a + offN n 3 + 2) (a + offN n 3 + 2 + pN L (a + offN n 3 + 2)) else if j = 4 then oneT digS L (a + offN n 3 + 1) else if j = 3 then oneT fileS L (a + offN n 3) else restT L a n 3 j := fun j hj => rfl
      have hT5 : restT L a n 3 5 = [] := by unfold restT; rw [if_neg (by omega)]
      have hpost : RestPost L a n w = fun e w' => ((restYes L a n ∧ e = .returned (.tuple #[.agg (sixA (restAll L a n)), .int .i64 ((a + offN n 3 + 2 + pN L (a + offN n 3 + 2) : Nat) : Int)])) ∨ (¬ restYes L a n ∧ ∃ T, e = .returned (.tuple #[.agg (sixA T), .int .i64 0]))) ∧ Below w.heap.size w w' := rfl
      replace hpost := Lib.hid hpost
      replace hyes := Lib.hid hyes
      replace hno1 := Lib.hid hno1
      replace hno2 := Lib.hid hno2
      replace hall := Lib.hid hall
      replace hT5 := Lib.hid hT5
      have hmb : a + offN n 3 ≤ 4 := by omega
      clear hok hlt hk
      generalize a + offN n 3 = m at *
      generalize restT L a n 3 = T at *
      have e1 : IntKind.i64.wrap ((m : Int) + 1) = (m : Int) + 1 := IntWalk.i64_in _ (by omega)
      go_wp2_with (fail)
      refine held_two (S := RestS w) (R := RestW T w) (by kernel_rfl) ⟨T, hW.below ⟨rfl, rfl, rfl, Nat.le_refl _, fun _ _ => rfl⟩⟩ (hW.below ⟨rfl, rfl, rfl, Nat.le_refl _, fun _ _ => rfl⟩) ?_
      intro wA hWA hHeld
      clear hW
      refine wpAnyH_take (i := 0) (v := ?_) rfl (by kernel_rfl) (by kernel_rfl) (by kernel_rfl) (fun _ _ _ h => h) (Or.inl ⟨by rfl, ?_⟩) (by assumption) ?_
      rotate_left
      · (intro w hSw; obtain ⟨s0, s1⟩ := hSw.sets; go_simp; try with_reducible rfl)
      try simp only [List.getElem_toArray, List.getElem_cons_succ, List.getElem_cons_zero, Act.put, List.setIfInBounds_toArray, List.set_cons_zero, List.set_cons_succ]
      refine wpAnyH_take (i := 1) (v := ?_) rfl (by kernel_rfl) (by kernel_rfl) (by kernel_rfl) (fun _ _ _ h => h) (Or.inl ⟨by rfl, ?_⟩) (by assumption) ?_
      rotate_left
      · (intro w hSw; obtain ⟨s0, s1⟩ := hSw.sets; go_simp; try with_reducible rfl)
      try simp only [List.getElem_toArray, List.getElem_cons_succ, List.getElem_cons_zero, Act.put, List.setIfInBounds_toArray, List.set_cons_zero, List.set_cons_succ]
      refine wpAnyH_take (i := 2) (v := ?_) rfl (by kernel_rfl) (by kernel_rfl) (by kernel_rfl) (fun _ _ _ h => h) (Or.inl ⟨by rfl, ?_⟩) (by assumption) ?_
      rotate_left
      · (intro w hSw; obtain ⟨s0, s1⟩ := hSw.sets; go_simp; try with_reducible rfl)
      try simp only [List.getElem_toArray, List.getElem_cons_succ, List.getElem_cons_zero, Act.put, List.setIfInBounds_toArray, List.set_cons_zero, List.set_cons_succ]
      refine wpAnyH_take (i := 3) (v := ?_) rfl (by kernel_rfl) (by kernel_rfl) (by kernel_rfl) (fun _ _ _ h => h) (Or.inl ⟨by rfl, ?_⟩) (by assumption) ?_
      rotate_left
      · (intro w hSw; obtain ⟨s0, s1⟩ := hSw.sets; go_simp; try with_reducible rfl)
      try simp only [List.getElem_toArray, List.getElem_cons_succ, List.getElem_cons_zero, Act.put, List.setIfInBounds_toArray, List.set_cons_zero, List.set_cons_succ]
      refine wpAnyH_take (i := 4) (v := ?_) rfl (by kernel_rfl) (by kernel_rfl) (by kernel_rfl) (fun _ _ _ h => h) (Or.inl ⟨by rfl, ?_⟩) (by assumption) ?_
      rotate_left
      · (intro w hSw; obtain ⟨s0, s1⟩ := hSw.sets; go_simp; try with_reducible rfl)
      try simp only [List.getElem_toArray, List.getElem_cons_succ, List.getElem_cons_zero, Act.put, List.setIfInBounds_toArray, List.set_cons_zero, List.set_cons_succ]
      refine wpAnyH_take (i := 6) (v := ?_) rfl (by kernel_rfl) (by kernel_rfl) (by kernel_rfl) (fun _ _ _ h => h) (Or.inl ⟨by rfl, ?_⟩) (by assumption) ?_
      rotate_left
      · (intro w hSw; obtain ⟨s0, s1⟩ := hSw.sets; go_simp; try with_reducible rfl)
      try simp only [List.getElem_toArray, List.getElem_cons_succ, List.getElem_cons_zero, Act.put, List.setIfInBounds_toArray, List.set_cons_zero, List.set_cons_succ]
      refine wpAnyH_take (i := 7) (v := ?_) rfl (by kernel_rfl) (by kernel_rfl) (by kernel_rfl) (fun _ _ _ h => h) (Or.inl ⟨by rfl, ?_⟩) (by assumption) ?_
      rotate_left
      · (intro w hSw; obtain ⟨s0, s1⟩ := hSw.sets; go_simp; try with_reducible rfl)
      try simp only [List.getElem_toArray, List.getElem_cons_succ, List.getElem_cons_zero, Act.put, List.setIfInBounds_toArray, List.set_cons_zero, List.set_cons_succ]
      refine wpAnyH_take (i := 8) (v := ?_) rfl (by kernel_rfl) (by kernel_rfl) (by kernel_rfl) (fun _ _ _ h => h) (Or.inl ⟨by rfl, ?_⟩) (by assumption) ?_
      rotate_left
      · (intro w hSw; obtain ⟨s0, s1⟩ := hSw.sets; go_simp; try with_reducible rfl)
      try simp only [List.getElem_toArray, List.getElem_cons_succ, List.getElem_cons_zero, Act.put, List.setIfInBounds_toArray, List.set_cons_zero, List.set_cons_succ]
      refine wpAnyH_take (i := 9) (v := ?_) rfl (by kernel_rfl) (by kernel_rfl) (by kernel_rfl) (fun _ _ _ h => h) (Or.inl ⟨by rfl, ?_⟩) (by assumption) ?_
      rotate_left
      · (intro w hSw; obtain ⟨s0, s1⟩ := hSw.sets; go_simp; try with_reducible rfl)
      try simp only [List.getElem_toArray, List.getElem_cons_succ, List.getElem_cons_zero, Act.put, List.setIfInBounds_toArray, List.set_cons_zero, List.set_cons_succ]
      refine wpAnyH_take (i := 10) (v := ?_) rfl (by kernel_rfl) (by kernel_rfl) (by kernel_rfl) (fun _ _ _ h => h) (Or.inl ⟨by rfl, ?_⟩) (by assumption) ?_
      rotate_left
      · (intro w hSw; obtain ⟨s0, s1⟩ := hSw.sets; go_simp; try with_reducible rfl)
      try simp only [List.getElem_toArray, List.getElem_cons_succ, List.getElem_cons_zero, Act.put, List.setIfInBounds_toArray, List.set_cons_zero, List.set_cons_succ]
      refine wpAnyH_take (i := 11) (v := ?_) rfl (by kernel_rfl) (by kernel_rfl) (by kernel_rfl) (fun _ _ _ h => h) (Or.inl ⟨by rfl, ?_⟩) (by assumption) ?_
      rotate_left
      · (intro w hSw; obtain ⟨s0, s1⟩ := hSw.sets; go_simp; try with_reducible rfl)
      try simp only [List.getElem_toArray, List.getElem_cons_succ, List.getElem_cons_zero, Act.put, List.setIfInBounds_toArray, List.set_cons_zero, List.set_cons_succ]
      have hx3 : (oneT fileS L m).isEmpty = !has fileS L m := one_empty _ _ _
      have hx4 : (oneT digS L (m + 1)).isEmpty = !has digS L (m + 1) := one_empty _ _ _
      replace hone3 := Lib.hid hone3
      replace hone4 := Lib.hid hone4
      generalize hx3e : oneT fileS L m = x3 at *
      generalize hx4e : oneT digS L (m + 1) = x4 at *
      replace hx3 := Lib.hid hx3
      replace hx4 := Lib.hid hx4
      replace hx3e := Lib.hid hx3e
      replace hx4e := Lib.hid hx4e
      refine wpAnyH_ready (rs := [5]) (by kernel_rfl) (by simp) ?_
      refine AllReadyH.cons rfl (fun K hK => ?_) AllReadyH.nil
      go_simp
      refine (hone3.out _).mono ?_
      rintro e w' ⟨rfl, rfl⟩
      refine hK.out _ _ hHeld (fun hHeld2 => ?_)
      clear hK K hHeld2
      try simp only [List.getElem_toArray, List.getElem_cons_succ, List.getElem_cons_zero, Act.put, List.setIfInBounds_toArray, List.set_cons_zero, List.set_cons_succ]
      refine wpAnyH_take (i := 13) (v := ?_) rfl (by kernel_rfl) (by kernel_rfl) (by kernel_rfl) (fun _ _ _ h => h) (Or.inl ⟨by rfl, ?_⟩) (by assumption) ?_
      rotate_left
      · (intro w hSw; obtain ⟨s0, s1⟩ := hSw.sets; go_simp; try with_reducible rfl)
      try simp only [List.getElem_toArray, List.getElem_cons_succ, List.getElem_cons_zero, Act.put, List.setIfInBounds_toArray, List.set_cons_zero, List.set_cons_succ]
      refine wpAnyH_ready (rs := [12]) (by kernel_rfl) (by simp) ?_
      refine AllReadyH.cons rfl (fun K hK => ?_) AllReadyH.nil
      go_simp
      refine (hone4.out _).mono ?_
      rintro e w' ⟨rfl, rfl⟩
      refine hK.out _ _ hHeld (fun hHeld2 => ?_)
      clear hK K hHeld2
      try simp only [List.getElem_toArray, List.getElem_cons_succ, List.getElem_cons_zero, Act.put, List.setIfInBounds_toArray, List.set_cons_zero, List.set_cons_succ]
      refine wpAnyH_ready (rs := [14]) (by kernel_rfl) (by simp) ?_
      refine AllReadyH.cons rfl (fun K hK => ?_) AllReadyH.nil
      have hT3 := hWA.2.1.cell (i := 3) (by omega)
      have hf3 := hWA.2.1.frozen 3
      unfold tV at hT3
      go_simp
      have hp3 := hWA.put 3 x3
      refine hK.out _ _ ⟨_, hp3⟩ (fun hHeld2 => ?_)
      clear hK K hHeld hWA hT3 hf3
      generalize World.setCell _ _ _ = wP at *
      generalize hT1 : (fun j => if j = 3 then x3 else T j) = T1 at *
      try simp only [List.getElem_toArray, List.getElem_cons_succ, List.getElem_cons_zero, Act.put, List.setIfInBounds_toArray, List.set_cons_zero, List.set_cons_succ]
      refine wpAnyH_take (i := 15) (v := ?_) rfl (by kernel_rfl) (by kernel_rfl) (by kernel_rfl) (fun _ _ _ h => h) (Or.inl ⟨by rfl, ?_⟩) (by assumption) ?_
      rotate_left
      · (intro w hSw; obtain ⟨s0, s1⟩ := hSw.sets; go_simp; try with_reducible rfl)
      try simp only [List.getElem_toArray, List.getElem_cons_succ, List.getElem_cons_zero, Act.put, List.setIfInBounds_toArray, List.set_cons_zero, List.set_cons_succ]
      refine wpAnyH_ready (rs := [16]) (by kernel_rfl) (by simp) ?_
      refine AllReadyH.cons rfl (fun K hK => ?_) AllReadyH.nil
      have hT4 := hp3.2.1.cell (i := 4) (by omega)
      have hf4 := hp3.2.1.frozen 4
      unfold tV at hT4
      replace hT1 := Lib.hid hT1
      go_simp
      have hp4 := hp3.put 4 x4
      refine hK.out _ _ ⟨_, hp4⟩ (fun hHeld3 => ?_)
      clear hK K hp3 hHeld2 hHeld3 hT4 hf4
      generalize World.setCell _ _ _ = wE at *
      try simp only [List.getElem_toArray, List.getElem_cons_succ, List.getElem_cons_zero, Act.put, List.setIfInBounds_toArray, List.set_cons_zero, List.set_cons_succ]
      refine wpAnyH_done (by kernel_rfl) ?_ _
      have hp5 : ∃ T2 : Nat → List UInt8, RestW T2 w wE ∧ T2 3 = x3 ∧ T2 4 = x4 ∧ T2 5 = [] ∧ ∀ j, j < 3 → T2 j = T j := ⟨_, hp4, by rw [← hT1.out]; simp, by simp, by rw [← hT1.out]; simpa using hT5.out, fun j hj => by rw [← hT1.out]; simp [show j ≠ 4 by omega, show j ≠ 3 by omega]⟩
      obtain ⟨T2, hW2, q3, q4, q5, qj⟩ := hp5
      clear hp4 hT1
      have hx3' := hx3.out
      have hx4' := hx4.out
      have k3 := hW2.2.1.cell (i := 3) (by omega)
      have k4 := hW2.2.1.cell (i := 4) (by omega)
      unfold tV at k3 k4
      rw [q3] at k3
      rw [q4] at k4
      replace q3 := Lib.hid q3
      replace q4 := Lib.hid q4
      replace q5 := Lib.hid q5
      replace qj := Lib.hid qj
      clear hone3 hone4 e1
      cases hF : has fileS L m
      · rw [hF] at hx3'
        have hn := Lib.hid (hno1.out hF)
        clear hF hx4'
        go_upto_region 13 with (fail)
        clear k3 k4
        obtain ⟨c0, c1, c2, c3, c4, c5⟩ := hW2.cells
        have hth := Lib.hid hW2.there
        have hans := Lib.hid hW2.answer
        clear hW2
        go_wp2_with (refine wpList_store_mid rfl 44 _ _ rfl w.heap.size 0 (sixA T2) rfl rfl hth.out (by kernel_rfl) (by simp [sixA, Value.oneCell']) ?_)
        obtain ⟨hrA, hBA⟩ := hans.out
        generalize World.setCells _ _ _ _ = wB at *
        have d0 := hrA.cell (i := 0) (by omega)
        have d1 := hrA.cell (i := 1) (by omega)
        have d2 := hrA.cell (i := 2) (by omega)
        have d3 := hrA.cell (i := 3) (by omega)
        have d4 := hrA.cell (i := 4) (by omega)
        have d5 := hrA.cell (i := 5) (by omega)
        replace hBA := Lib.hid hBA
        clear hrA c0 c1 c2 c3 c4 c5
        exact bodyPost_ret (v := .tuple #[.agg (sixA T2), .int .i64 0]) (by simp [results, Tryd.results22, go_sem, d0, d1, d2, d3, d4, d5]; rfl) rfl (by rw [hpost.out]; exact ⟨.inr ⟨hn.out, T2, rfl⟩, hBA.out⟩)
      · cases hD : has digS L (m + 1)
        · rw [hF] at hx3'
          rw [hD] at hx4'
          have hn := Lib.hid (hno2.out hD)
          clear hF hD
          go_upto_region 13 with (fail)
          clear k3 k4
          obtain ⟨c0, c1, c2, c3, c4, c5⟩ := hW2.cells
          have hth := Lib.hid hW2.there
          have hans := Lib.hid hW2.answer
          clear hW2
          go_wp2_with (refine wpList_store_mid rfl 44 _ _ rfl w.heap.size 0 (sixA T2) rfl rfl hth.out (by kernel_rfl) (by simp [sixA, Value.oneCell']) ?_)
          obtain ⟨hrA, hBA⟩ := hans.out
          generalize World.setCells _ _ _ _ = wB at *
          have d0 := hrA.cell (i := 0) (by omega)
          have d1 := hrA.cell (i := 1) (by omega)
          have d2 := hrA.cell (i := 2) (by omega)
          have d3 := hrA.cell (i := 3) (by omega)
          have d4 := hrA.cell (i := 4) (by omega)
          have d5 := hrA.cell (i := 5) (by omega)
          replace hBA := Lib.hid hBA
          clear hrA c0 c1 c2 c3 c4 c5
          exact bodyPost_ret (v := .tuple #[.agg (sixA T2), .int .i64 0]) (by simp [results, Tryd.results22, go_sem, d0, d1, d2, d3, d4, d5]; rfl) rfl (by rw [hpost.out]; exact ⟨.inr ⟨hn.out, T2, rfl⟩, hBA.out⟩)
        · rw [hF] at hx3'
          rw [hD] at hx4'
          have hlD := has_lt hD
          have hgk : ∀ h : m + 2 < (tx L).size, ((((tx L)[m + 2]'h).toNat : Nat) : Int) = (((L.getD (m + 2) 0).toNat : Nat) : Int) := fun h => by rw [get_bt (tx L) (m + 2) h, bt_tx]
          have hgk3 : ∀ h : m + 3 < (tx L).size, ((((tx L)[m + 3]'h).toNat : Nat) : Int) = (((L.getD (m + 3) 0).toNat : Nat) : Int) := fun h => by rw [get_bt (tx L) (m + 3) h, bt_tx]
          replace hF := Lib.hid hF
          replace hD := Lib.hid hD
          by_cases h3 : m + 3 < L.length
          · have hd3 : decide ((m : Int) + 3 < (L.length : Int)) = true := decide_eq_true (by omega)
            have hEq : has eqS L (m + 2) = ((((L.getD (m + 2) 0).toNat : Nat) : Int) == 61) := by
              unfold has
              rw [decide_eq_true (by omega), Bool.true_and, show (61 : Int) = (((61 : UInt8).toNat : Nat) : Int) from rfl, u8_beq]
              simp [eqS, beq_iff_eq]
            have hin := fun w => sanIn_any promS (by decide) (L.getD (m + 3) 0) w
            rw [show promS.contains (L.getD (m + 3) 0) = has promS L (m + 3) by unfold has; rw [decide_eq_true h3, Bool.true_and]] at hin
            have hgk3' : ∀ h : m + 2 + 1 < (tx L).size, ((((tx L)[m + 2 + 1]'h).toNat : Nat) : Int) = (((L.getD (m + 3) 0).toNat : Nat) : Int) := fun h => by rw [get_bt (tx L) (m + 2 + 1) h, bt_tx]
            cases hE : ((((L.getD (m + 2) 0).toNat : Nat) : Int) == 61)
            · rw [hE] at hEq
              clear hin hgk3 hgk3'
              have hpn : pN L (m + 2) = 0 := by unfold pN; rw [hEq, Bool.false_and]; rfl
              have hX : RestW (restAll L a n) w wE := hW2.congr fun j hj => by
                rw [hall.out j hj, hpn]
                have : j = 0 ∨ j = 1 ∨ j = 2 ∨ j = 3 ∨ j = 4 ∨ j = 5 := by omega
                rcases this with rfl | rfl | rfl | rfl | rfl | rfl
                · exact qj.out 0 (by omega)
                · exact qj.out 1 (by omega)
                · exact qj.out 2 (by omega)
                · exact q3.out
                · exact q4.out
                · rw [q5.out]; unfold mid; simp
              replace hpn := Lib.hid hpn
              clear hW2 hEq
              generalize hXe : restAll L a n = X at *
              replace hXe := Lib.hid hXe
              generalize (((L.getD (m + 2) 0).toNat : Nat) : Int) = c at *
              go_upto_region 18 with (fail)
              clear k3 k4
              obtain ⟨c0, c1, c2, c3, c4, c5⟩ := hX.cells
              have hth := Lib.hid hX.there
              have hans := Lib.hid hX.answer
              clear hX
              go_wp2_with (refine wpList_store_mid rfl 44 _ _ rfl w.heap.size 0 (sixA X) rfl rfl hth.out (by kernel_rfl) (by simp [sixA, Value.oneCell']) ?_)
              obtain ⟨hrA, hBA⟩ := hans.out
              generalize World.setCells _ _ _ _ = wB at *
              have d0 := hrA.cell (i := 0) (by omega)
              have d1 := hrA.cell (i := 1) (by omega)
              have d2 := hrA.cell (i := 2) (by omega)
              have d3 := hrA.cell (i := 3) (by omega)
              have d4 := hrA.cell (i := 4) (by omega)
              have d5 := hrA.cell (i := 5) (by omega)
              replace hBA := Lib.hid hBA
              clear hrA c0 c1 c2 c3 c4 c5
              exact bodyPost_ret (v := .tuple #[.agg (sixA X), .int .i64 ((m : Int) + 2)]) (by simp [results, Tryd.results22, go_sem, d0, d1, d2, d3, d4, d5]; rfl) rfl (by rw [hpost.out, hpn.out]; exact ⟨.inl ⟨hyes.out hF.out hD.out, by simp; try omega⟩, hBA.out⟩)
            · rw [hE] at hEq
              cases hP : has promS L (m + 3)
              · rw [hP] at hin
                replace hin := Lib.hid hin
                replace hP := Lib.hid hP
                have hpn : pN L (m + 2) = 0 := by unfold pN; rw [show m + 2 + 1 = m + 3 from rfl, hP.out, Bool.and_false]; rfl
                have hX : RestW (restAll L a n) w wE := hW2.congr fun j hj => by
                  rw [hall.out j hj, hpn]
                  have : j = 0 ∨ j = 1 ∨ j = 2 ∨ j = 3 ∨ j = 4 ∨ j = 5 := by omega
                  rcases this with rfl | rfl | rfl | rfl | rfl | rfl
                  · exact qj.out 0 (by omega)
                  · exact qj.out 1 (by omega)
                  · exact qj.out 2 (by omega)
                  · exact q3.out
                  · exact q4.out
                  · rw [q5.out]; unfold mid; simp
                replace hpn := Lib.hid hpn
                clear hW2 hEq
                generalize hXe : restAll L a n = X at *
                replace hXe := Lib.hid hXe
                generalize (((L.getD (m + 2) 0).toNat : Nat) : Int) = c at *
                generalize (((L.getD (m + 3) 0).toNat : Nat) : Int) = c3 at *
                go_upto_region 18 with (go_at_call 21; refine (hin.out _).mono ?_; rintro e w' ⟨rfl, rfl⟩)
                clear k3 k4
                obtain ⟨c0, c1, c2, c3, c4, c5⟩ := hX.cells
                have hth := Lib.hid hX.there
                have hans := Lib.hid hX.answer
                clear hX
                go_wp2_with (refine wpList_store_mid rfl 44 _ _ rfl w.heap.size 0 (sixA X) rfl rfl hth.out (by kernel_rfl) (by simp [sixA, Value.oneCell']) ?_)
                obtain ⟨hrA, hBA⟩ := hans.out
                generalize World.setCells _ _ _ _ = wB at *
                have d0 := hrA.cell (i := 0) (by omega)
                have d1 := hrA.cell (i := 1) (by omega)
                have d2 := hrA.cell (i := 2) (by omega)
                have d3 := hrA.cell (i := 3) (by omega)
                have d4 := hrA.cell (i := 4) (by omega)
                have d5 := hrA.cell (i := 5) (by omega)
                replace hBA := Lib.hid hBA
                clear hrA c0 c1 c2 c3 c4 c5
                exact bodyPost_ret (v := .tuple #[.agg (sixA X), .int .i64 ((m : Int) + 2)]) (by simp [results, Tryd.results22, go_sem, d0, d1, d2, d3, d4, d5]; rfl) rfl (by rw [hpost.out, hpn.out]; exact ⟨.inl ⟨hyes.out hF.out hD.out, by simp; try omega⟩, hBA.out⟩)
              · rw [hP] at hin
                have hlP := has_lt hP
                have hpn : pN L (m + 2) = 2 := by unfold pN; rw [hEq, show m + 2 + 1 = m + 3 from rfl, hP]; rfl
                have hsl := slice_at L ((m : Int) + 2) ((m : Int) + 4) (m + 2) (m + 4) (by omega) (by omega) (by omega) (by omega)
                have hsl' := slice_at L ((m : Int) + 2) ((m : Int) + 2 + 2) (m + 2) (m + 4) (by omega) (by omega) (by omega) (by omega)
                have hX : RestW (restAll L a n) w (wE.setCell ⟨w.heap.size + 1, 5, none⟩ (.string (tx (mid L (m + 2) (m + 4))))) := (hW2.put 5 (mid L (m + 2) (m + 4))).congr fun j hj => by
                  rw [hall.out j hj, hpn]
                  have : j = 0 ∨ j = 1 ∨ j = 2 ∨ j = 3 ∨ j = 4 ∨ j = 5 := by omega
                  rcases this with rfl | rfl | rfl | rfl | rfl | rfl
                  · exact qj.out 0 (by omega)
                  · exact qj.out 1 (by omega)
                  · exact qj.out 2 (by omega)
                  · exact q3.out
                  · exact q4.out
                  · rfl
                have k5 := hW2.2.1.cell (i := 5) (by omega)
                have f5 := hW2.2.1.frozen 5
                unfold tV at k5
                replace hpn := Lib.hid hpn
                replace hX := Lib.hid hX
                replace hin := Lib.hid hin
                replace hP := Lib.hid hP
                clear hW2 hEq
                generalize hXe : restAll L a n = X at *
                replace hXe := Lib.hid hXe
                generalize (((L.getD (m + 2) 0).toNat : Nat) : Int) = c at *
                generalize (((L.getD (m + 3) 0).toNat : Nat) : Int) = c3 at *
                generalize mid L (m + 2) (m + 4) = y at *
                go_upto_region 18 with (go_at_call 21; refine (hin.out _).mono ?_; rintro e w' ⟨rfl, rfl⟩)
                replace hX := hX.out
                generalize World.setCell _ _ _ = wF at *
                clear k3 k4 k5 f5
                obtain ⟨c0, c1, c2, c3, c4, c5⟩ := hX.cells
                have hth := Lib.hid hX.there
                have hans := Lib.hid hX.answer
                clear hX
                go_wp2_with (refine wpList_store_mid rfl 44 _ _ rfl w.heap.size 0 (sixA X) rfl rfl hth.out (by kernel_rfl) (by simp [sixA, Value.oneCell']) ?_)
                obtain ⟨hrA, hBA⟩ := hans.out
                generalize World.setCells _ _ _ _ = wB at *
                have d0 := hrA.cell (i := 0) (by omega)
                have d1 := hrA.cell (i := 1) (by omega)
                have d2 := hrA.cell (i := 2) (by omega)
                have d3 := hrA.cell (i := 3) (by omega)
                have d4 := hrA.cell (i := 4) (by omega)
                have d5 := hrA.cell (i := 5) (by omega)
                replace hBA := Lib.hid hBA
                clear hrA c0 c1 c2 c3 c4 c5
                exact bodyPost_ret (v := .tuple #[.agg (sixA X), .int .i64 ((m : Int) + 2 + 2)]) (by simp [results, Tryd.results22, go_sem, d0, d1, d2, d3, d4, d5]; rfl) rfl (by rw [hpost.out, hpn.out]; exact ⟨.inl ⟨hyes.out hF.out hD.out, by simp; try omega⟩, hBA.out⟩)
          · have hd3 : decide ((m : Int) + 3 < (L.length : Int)) = false := decide_eq_false (by omega)
            have hpn : pN L (m + 2) = 0 := by unfold pN; rw [has_far (S := promS) (L := L) (i := m + 2 + 1) (by omega), Bool.and_false]; rfl
            have hX : RestW (restAll L a n) w wE := hW2.congr fun j hj => by
              rw [hall.out j hj, hpn]
              have : j = 0 ∨ j = 1 ∨ j = 2 ∨ j = 3 ∨ j = 4 ∨ j = 5 := by omega
              rcases this with rfl | rfl | rfl | rfl | rfl | rfl
              · exact qj.out 0 (by omega)
              · exact qj.out 1 (by omega)
              · exact qj.out 2 (by omega)
              · exact q3.out
              · exact q4.out
              · rw [q5.out]; unfold mid; simp
            replace hpn := Lib.hid hpn
            clear hW2 hgk hgk3
            generalize hXe : restAll L a n = X at *
            replace hXe := Lib.hid hXe
            go_upto_region 18 with (fail)
            clear k3 k4
            obtain ⟨c0, c1, c2, c3, c4, c5⟩ := hX.cells
            have hth := Lib.hid hX.there
            have hans := Lib.hid hX.answer
            clear hX
            go_wp2_with (refine wpList_store_mid rfl 44 _ _ rfl w.heap.size 0 (sixA X) rfl rfl hth.out (by kernel_rfl) (by simp [sixA, Value.oneCell']) ?_)
            obtain ⟨hrA, hBA⟩ := hans.out
            generalize World.setCells _ _ _ _ = wB at *
            have d0 := hrA.cell (i := 0) (by omega)
            have d1 := hrA.cell (i := 1) (by omega)
            have d2 := hrA.cell (i := 2) (by omega)
            have d3 := hrA.cell (i := 3) (by omega)
            have d4 := hrA.cell (i := 4) (by omega)
            have d5 := hrA.cell (i := 5) (by omega)
            replace hBA := Lib.hid hBA
            clear hrA c0 c1 c2 c3 c4 c5
            exact bodyPost_ret (v := .tuple #[.agg (sixA X), .int .i64 ((m : Int) + 2)]) (by simp [results, Tryd.results22, go_sem, d0, d1, d2, d3, d4, d5]; rfl) rfl (by rw [hpost.out, hpn.out]; exact ⟨.inl ⟨hyes.out hF.out hD.out, by simp; try omega⟩, hBA.out⟩)
end Go.Proofs.YtkbbncobgmepbaaDoor

/- Options: words, and what fits. -/
import Derived.Test.YtkbbncobgmepbaaWords
namespace Go.Proofs.Ytkbbncobgmepbaa
open Go.ChangeShapes Go.WideShapes Go.ChangeAt Go.RowKit Go.PlainAid
set_option maxHeartbeats 1000000
set_option linter.unusedVariables false
set_option linter.unusedSimpArgs false
attribute [local go_sem] tx_list tx_size

def isWord (L : List UInt8) : Bool := noBlank L && !L.isEmpty
theorem uciWord_any (L : List UInt8) (hL : L.length ≤ 2147483647) (w : World) :
    Calls Try.prog 6 #[.string (tx L)] w fun e w' => e = .returned (.bool (isWord L)) ∧ w' = w := by
  have hget := get_bt (tx L)
  go_enter Try.func6, Try.ntmps6
  go_wp2
  go_loopw [3] (fun i wr => ∃ k : Nat, k ≤ L.length ∧ i = .int .i64 k ∧ NoB (L.take k) ∧ w = wr) (fun i _ => L.length - (intOf i).toNat)
  case atStart => exact ⟨0, by omega, rfl, by simp [NoB], rfl⟩
  case round =>
    obtain ⟨k, hk, rfl, hn, rfl⟩ := hrel
    by_cases hlt : k < L.length
    · have hgk := hget k hlt
      rw [bt_tx] at hgk
      clear hget
      by_cases hc : L.getD k 0 = 32
      · have hce : ((((L.getD k 0).toNat : Nat) : Int) == 32) = true := by rw [hc]; rfl
        have hno : isWord L = false := by
          have : noBlank L = false := by
            cases h : noBlank L
            · rfl
            · have := (noBlank_iff L).1 h
              exact absurd hc (by
                rw [List.getD_eq_getElem?_getD, List.getElem?_eq_getElem hlt, Option.getD_some]
                exact this _ (List.getElem_mem hlt))
          unfold isWord; rw [this]; rfl
        replace hno := Lib.hid hno
        clear hc hn
        generalize (((L.getD k 0).toNat : Nat) : Int) = c at *
        go_wp2
        go_ret
        exact ⟨by rw [hno.out]; rfl, rfl⟩
      · have hce : ((((L.getD k 0).toNat : Nat) : Int) == 32) = false := by
          simp only [beq_eq_false_iff_ne]
          intro h
          exact hc (UInt8.toNat_inj.1 (show (L.getD k 0).toNat = 32 by omega))
        have hn' := Lib.hid (noB_succ hlt hn hc)
        clear hc hn
        generalize (((L.getD k 0).toNat : Nat) : Int) = c at *
        go_wp2
        exact ⟨⟨k + 1, by omega, by go_num, hn'.out, trivial⟩, by simp [intOf]; omega⟩
    · obtain rfl : k = L.length := by omega
      rw [List.take_length] at hn
      have hyes : isWord L = (!L.isEmpty) := by unfold isWord; rw [(noBlank_iff L).2 hn, Bool.true_and]
      replace hyes := Lib.hid hyes
      clear hget hn
      go_wp2
      all_goals
        go_ret
        exact ⟨by rw [hyes.out]; first | rfl | simp_all, rfl⟩
/-! An option as the law holds it. -/
def optV (f : Nat → List UInt8) (v : Value) : Value := .agg #[.string (tx (f 0)), .string (tx (f 1)), .string (tx (f 2)), .string (tx (f 3)), .string (tx (f 4)), v]
/-- The texts of a slice. -/
def TextsAt (w : World) (v : Value) (l : List (List UInt8)) : Prop :=
  (∃ a c, v = .slice a 0 c ∧ l = [] ∧ (a = none → c = 0)) ∨ ∃ g o cap, v = .slice (some ⟨g, o, none⟩) l.length cap ∧ g < w.heap.size ∧ ∀ i, i < l.length → w.cell? ⟨g, o + i, none⟩ = some (.string (tx (l.getD i [])))
theorem TextsAt.below {w w' : World} {v : Value} {l : List (List UInt8)} (h : TextsAt w v l) (hb : Below w.heap.size w w') : TextsAt w' v l := by
  rcases h with h | ⟨g, o, cap, rfl, hg, hc⟩
  · exact .inl h
  · exact .inr ⟨g, o, cap, rfl, Nat.lt_of_lt_of_le hg hb.size, fun i hi => by rw [hb.cell (show (⟨g, o + i, none⟩ : Addr).block < w.heap.size from hg)]; exact hc i hi⟩
theorem fits12_any (v : Value) (l : List (List UInt8)) (w : World) (h : TextsAt w v l) (hl : l.length ≤ 2147483647) :
    Calls Try.prog 12 #[v] w fun e w' => e = .returned (.bool (l.all fun x => decide (x.length ≤ 2147483647))) ∧ w' = w := by
  rcases h with ⟨a0, c0, rfl, rfl, _⟩ | ⟨g, o, cap, rfl, hg, hcells⟩
  · go_enter Try.func12, Try.ntmps12
    go_wp2
    go_loopw [10, 4] (fun i _ wr => i = .int .i64 0 ∧ w = wr) (fun _ _ _ => 0)
    case atStart => exact ⟨rfl, rfl⟩
    case round =>
      obtain ⟨rfl, rfl⟩ := hrel
      go_wp2
      go_ret
      exact ⟨rfl, rfl⟩
  · have hd : decide ((2147483647 : Int) < (l.length : Int)) = false := by simp; omega
    go_enter Try.func12, Try.ntmps12
    go_wp2
    go_loopw [10, 4] (fun i _ wr => ∃ k : Nat, k ≤ l.length ∧ i = .int .i64 k ∧ (∀ j, j < k → (l.getD j []).length ≤ 2147483647) ∧ w = wr) (fun i _ _ => l.length - (intOf i).toNat)
    case atStart => exact ⟨0, by omega, rfl, fun j hj => by omega, rfl⟩
    case round =>
      obtain ⟨k, hk, rfl, hall, rfl⟩ := hrel
      by_cases hlt : k < l.length
      · have hc := hcells k hlt
        by_cases hf : (l.getD k []).length ≤ 2147483647
        · have hd2 : decide ((2147483647 : Int) < ((l.getD k []).length : Int)) = false := decide_eq_false (by omega)
          have hall' := Lib.hid (show ∀ j, j < k + 1 → (l.getD j []).length ≤ 2147483647 from fun j hj => by rcases Nat.lt_succ_iff_lt_or_eq.1 hj with h | rfl; exact hall j h; exact hf)
          clear hall hcells hf
          generalize l.getD k [] = x at *
          go_wp2
          exact ⟨⟨k + 1, by omega, by go_num, hall'.out, trivial⟩, by simp [intOf]; omega⟩
        · have hd2 : decide ((2147483647 : Int) < ((l.getD k []).length : Int)) = true := decide_eq_true (by omega)
          have hno : (l.all fun x => decide (x.length ≤ 2147483647)) = false := by
            rw [List.all_eq_false]
            refine ⟨l.getD k [], ?_, by simpa using hf⟩
            rw [List.getD_eq_getElem?_getD, List.getElem?_eq_getElem hlt, Option.getD_some]
            exact List.getElem_mem hlt
          replace hno := Lib.hid hno
          clear hall hcells hf
          generalize l.getD k [] = x at *
          go_wp2
          go_ret
          exact ⟨by rw [hno.out]; rfl, rfl⟩
      · obtain rfl : k = l.length := by omega
        have hyes : (l.all fun x => decide (x.length ≤ 2147483647)) = true := by
          rw [List.all_eq_true]
          intro x hx
          obtain ⟨j, hj, rfl⟩ := List.getElem_of_mem hx
          have := hall j hj
          rw [List.getD_eq_getElem?_getD, List.getElem?_eq_getElem hj, Option.getD_some] at this
          simpa using this
        replace hyes := Lib.hid hyes
        clear hall hcells
        go_wp2
        go_ret
        exact ⟨by rw [hyes.out]; rfl, rfl⟩
/-- That an option's texts fit, as the law asks it. -/
def tooLong (x : List UInt8) : Bool := decide ((2147483647 : Int) < (x.length : Int))
def fitsOpt (f : Nat → List UInt8) (l : List (List UInt8)) : Bool := !tooLong (f 0) && (!tooLong (f 1) && (!tooLong (f 2) && (!tooLong (f 3) && (!tooLong (f 4) && (l.all fun x => decide (x.length ≤ 2147483647))))))
set_option maxRecDepth 100000 in
theorem fits11_any (f : Nat → List UInt8) (v : Value) (l : List (List UInt8)) (w : World) (h : TextsAt w v l) (hl : l.length ≤ 2147483647) :
    Calls Try.prog 5 #[optV f v] w fun e w' => e = .returned (.bool (fitsOpt f l)) ∧ Below w.heap.size w w' := by
  have hone : v.cells = #[v] := by
    rcases h with ⟨a0, c0, rfl, _⟩ | ⟨g, o, cap, rfl, _⟩ <;> rfl
  have hB : Below w.heap.size w (w.alloc (.cells #[.string (tx (f 0)), .string (tx (f 1)), .string (tx (f 2)), .string (tx (f 3)), .string (tx (f 4)), v] 24)) := (Below.refl _ _).alloc (Nat.le_refl _) _
  have h12 := Lib.hid (fits12_any v l _ (h.below hB) hl)
  replace hB := Lib.hid hB
  clear h
  have hF : fitsOpt f l = (!tooLong (f 0) && (!tooLong (f 1) && (!tooLong (f 2) && (!tooLong (f 3) && (!tooLong (f 4) && (l.all fun x => decide (x.length ≤ 2147483647))))))) := rfl
  unfold tooLong at hF
  unfold optV
  generalize f 0 = f0 at *
  generalize f 1 = f1 at *
  generalize f 2 = f2 at *
  generalize f 3 = f3 at *
  generalize f 4 = f4 at *
  generalize (l.all fun x => decide (x.length ≤ 2147483647)) = a at *
  replace hF := Lib.hid hF
  go_enter Try.func5, Try.ntmps5
  go_wp2_with (go_at_call 12; refine h12.out.mono ?_; rintro e w' ⟨rfl, rfl⟩)
  all_goals
    go_ret
    refine ⟨?_, hB.out⟩
    rw [hF.out]
    first | rfl | (simp; omega) | (simp_all; done) | (simp_all; omega)
end Go.Proofs.Ytkbbncobgmepbaa

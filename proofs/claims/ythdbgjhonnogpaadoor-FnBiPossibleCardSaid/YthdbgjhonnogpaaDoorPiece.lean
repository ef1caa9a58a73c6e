/- Pieces, their kinds and colours: contracts of the program's small functions. -/
import Derived.Test.YthdbgjhonnogpaaDoorLaid
import Derived.Test.YthdbgjhonnogpaaDoorSq
namespace Go.Proofs.YthdbgjhonnogpaaDoor
open Go.ChangeShapes Go.WideShapes Go.ChangeAt Go.RowKit
set_option maxHeartbeats 1000000
set_option linter.unusedVariables false
set_option linter.unusedSimpArgs false

/-- The list of all pieces, as the world holds it. -/
def TabsP (w : World) : Prop := ∃ b o, w.cell? ⟨2, 0, none⟩ = some (.slice (some ⟨b, o, none⟩) 12 12) ∧ ∀ i, i < 12 → w.cell? ⟨b, o + i, none⟩ = some (.int .i8 ((i : Int) + 1))
theorem TabsP.below {w w' : World} (h : TabsP w) (hb : Below w.heap.size w w') : TabsP w' :=
  let ⟨b, o, h1, h2⟩ := h; ⟨b, o, cell_below hb h1, fun i hi => cell_below hb (h2 i hi)⟩

theorem cell_spot' {w : World} {b o : Nat} {sp : Option Nat} {v : Value} (h : w.cell? ((⟨b, o, sp⟩ : Addr).add 0) = some v) : sp = none := by
  cases sp with
  | none => rfl
  | some n => simp only [Addr.add, if_true, World.cell?] at h; split at h <;> simp at h

def pieceData {H : Type} : DataW H := .slice [.lit (.int .i8 1), .lit (.int .i8 2), .lit (.int .i8 3), .lit (.int .i8 4), .lit (.int .i8 5), .lit (.int .i8 6), .lit (.int .i8 7), .lit (.int .i8 8), .lit (.int .i8 9), .lit (.int .i8 10), .lit (.int .i8 11), .lit (.int .i8 12)] []
theorem tabsP_reads {W : World} (h : Lib.VarReads Tryd.prog W "pub-fianchetto/pub/chess.allPieces" pieceData) : TabsP W := by
  obtain ⟨g, t, cs, fuel, p, hg, ht, hvar, hd⟩ := h
  obtain rfl := Option.some.inj ((show Tryd.prog.globalNamed "pub-fianchetto/pub/chess.allPieces" = some 2 by kernel_rfl).symm.trans hg)
  obtain rfl := Option.some.inj ((show (Tryd.prog.globals[2]?).map (·.type) = some 90 by kernel_rfl).symm.trans ht)
  have h0 := fun i => World.var?_cell hg hvar i
  rcases open_ints Tryd.underlying90 Tryd.underlying80 (by kernel_rfl) hd with ⟨_, hx⟩ | ⟨a, len, cap, zs, hcs, _, hlc, hm, hzl, hx, hcell, _⟩
  · simp [pieceData] at hx
  simp only [if_true] at hzl
  simp only [pieceData, Prod.mk.injEq, DataW.slice.injEq] at hx
  obtain ⟨⟨hx1, hx2⟩, _⟩ := hx
  have hl : (lits (H := Unit) .i8 (zs.take len)).length = 12 := by rw [← hx1]; rfl
  have hl2 : (lits (H := Unit) .i8 (zs.drop len)).length = 0 := by rw [← hx2]; rfl
  simp only [lits, List.length_map, List.length_take, List.length_drop] at hl hl2
  have e1 : len = 12 := by omega
  have e2 : cap = 12 := by omega
  subst e1 e2
  have hzs : zs = [1, 2, 3, 4, 5, 6, 7, 8, 9, 10, 11, 12] := by
    rw [List.take_of_length_le (by omega)] at hx1
    have : lits (H := Unit) .i8 [1, 2, 3, 4, 5, 6, 7, 8, 9, 10, 11, 12] = lits .i8 zs := hx1
    have inj : ∀ l m : List Int, lits (H := Unit) .i8 l = lits .i8 m → l = m := by
      intro l
      induction l with
      | nil => intro m h; cases m <;> simp_all [lits]
      | cons x l ih =>
        intro m h
        cases m with
        | nil => simp [lits] at h
        | cons y m =>
          simp only [lits, List.map_cons, List.cons.injEq, DataW.lit.injEq, Lit.int.injEq, true_and] at h
          rw [h.1, ih m h.2]
    exact (inj _ _ this).symm
  subst hzs
  obtain ⟨b, o, sp⟩ := a
  have hc0 := hcell 0 (by simp)
  obtain rfl : sp = none := cell_spot' hc0
  refine ⟨b, o, ?_, fun i hi => ?_⟩
  · have := h0 0
    rw [show cs[0]? = cs.toList[0]? from by simp, hcs] at this
    simpa using this
  · have e : (⟨b, o, none⟩ : Addr).add i = ⟨b, o + i, none⟩ := by
      unfold Addr.add; split <;> simp_all
    rw [← e, hcell i (by simpa using hi)]
    have : i = 0 ∨ i = 1 ∨ i = 2 ∨ i = 3 ∨ i = 4 ∨ i = 5 ∨ i = 6 ∨ i = 7 ∨ i = 8 ∨ i = 9 ∨ i = 10 ∨ i = 11 := by omega
    rcases this with rfl | rfl | rfl | rfl | rfl | rfl | rfl | rfl | rfl | rfl | rfl | rfl <;> rfl

def ptype (p : Int) : Int := if p ≤ 6 then p else p - 6
def pcolor (p : Int) : Int := if p = 0 then 0 else if p ≤ 6 then 1 else 2
theorem type_any (p : Int) (h0 : 0 ≤ p) (h1 : p ≤ 12) (w : World) :
    Calls Tryd.prog 72 #[.int .i8 p] w fun e w' => e = .returned (.int .i8 (ptype p)) ∧ w = w' := by
  have : p = 0 ∨ p = 1 ∨ p = 2 ∨ p = 3 ∨ p = 4 ∨ p = 5 ∨ p = 6 ∨ p = 7 ∨ p = 8 ∨ p = 9 ∨ p = 10 ∨ p = 11 ∨ p = 12 := by omega
  rcases this with rfl | rfl | rfl | rfl | rfl | rfl | rfl | rfl | rfl | rfl | rfl | rfl | rfl
  all_goals
    go_enter Tryd.func72, Tryd.ntmps72
    go_wp2
    go_ret
    exact ⟨rfl, rfl⟩
theorem color_any (p : Int) (h0 : 0 ≤ p) (h1 : p ≤ 12) (w : World) :
    Calls Tryd.prog 71 #[.int .i8 p] w fun e w' => e = .returned (.int .i8 (pcolor p)) ∧ w = w' := by
  have : p = 0 ∨ p = 1 ∨ p = 2 ∨ p = 3 ∨ p = 4 ∨ p = 5 ∨ p = 6 ∨ p = 7 ∨ p = 8 ∨ p = 9 ∨ p = 10 ∨ p = 11 ∨ p = 12 := by omega
  rcases this with rfl | rfl | rfl | rfl | rfl | rfl | rfl | rfl | rfl | rfl | rfl | rfl | rfl
  all_goals
    go_enter Tryd.func71, Tryd.ntmps71
    go_wp2
    go_ret
    exact ⟨rfl, rfl⟩
theorem newPiece_any (t c : Int) (ht : 1 ≤ t ∧ t ≤ 6) (hc : c = 1 ∨ c = 2) (w : World) (hT : TabsP w) :
    Calls Tryd.prog 68 #[.int .i8 t, .int .i8 c] w fun e w' => e = .returned (.int .i8 (t + 6 * (c - 1))) ∧ w = w' := by
  obtain ⟨b, o, h1, h2⟩ := hT
  have hn : ∀ k : Nat, k < 12 → ((k : Int) + 1 = t + 6 * (c - 1) ∨ (pcolor ((k : Int) + 1) == c) = false ∨ (ptype ((k : Int) + 1) == t) = false) := by
    intro k hk
    by_cases h : (k : Int) + 1 = t + 6 * (c - 1)
    · exact .inl h
    · right
      unfold pcolor ptype
      simp only [beq_eq_false_iff_ne, ne_eq]
      split <;> split <;> rcases hc with rfl | rfl <;> omega
  go_enter Tryd.func68, Tryd.ntmps68
  go_wp2
  go_loop [9] (fun i => ∃ k : Nat, (k : Int) + 1 ≤ t + 6 * (c - 1) ∧ i = .int .i64 k) (fun i => 12 - (intOf i).toNat)
  case atStart => exact ⟨0, by omega, rfl⟩
  case round =>
    obtain ⟨k, hk, rfl⟩ := hrel
    have hk12 : k < 12 := by omega
    have hcell := h2 k hk12
    by_cases he : (k : Int) + 1 = t + 6 * (c - 1)
    · have e1 : (pcolor ((k : Int) + 1) == c) = true := by
        rw [he]; unfold pcolor; simp only [beq_iff_eq]; split <;> (try split) <;> omega
      have e2 : (ptype ((k : Int) + 1) == t) = true := by
        rw [he]; unfold ptype; simp only [beq_iff_eq]; split <;> omega
      have HE := Lib.hid he
      clear he
      clear hn h2
      go_wp2_with (first | (go_at_call 71; refine (color_any _ (by omega) (by omega) _).mono ?_; rintro e w' ⟨rfl, rfl⟩) | (go_at_call 72; refine (type_any _ (by omega) (by omega) _).mono ?_; rintro e w' ⟨rfl, rfl⟩))
      go_ret
      exact ⟨by rw [← HE.out]; rfl, rfl⟩
    · rcases hn k hk12 with h | e1 | e2
      · exact absurd h he
      · clear hn h2
        go_wp2_with (first | (go_at_call 71; refine (color_any _ (by omega) (by omega) _).mono ?_; rintro e w' ⟨rfl, rfl⟩) | (go_at_call 72; refine (type_any _ (by omega) (by omega) _).mono ?_; rintro e w' ⟨rfl, rfl⟩))
        exact ⟨⟨k + 1, by omega, by go_num⟩, by simp [intOf]; omega⟩
      · clear hn h2
        go_wp2_with (first | (go_at_call 71; refine (color_any _ (by omega) (by omega) _).mono ?_; rintro e w' ⟨rfl, rfl⟩) | (go_at_call 72; refine (type_any _ (by omega) (by omega) _).mono ?_; rintro e w' ⟨rfl, rfl⟩))
        all_goals exact ⟨⟨k + 1, by omega, by go_num⟩, by simp [intOf]; omega⟩
end Go.Proofs.YthdbgjhonnogpaaDoor

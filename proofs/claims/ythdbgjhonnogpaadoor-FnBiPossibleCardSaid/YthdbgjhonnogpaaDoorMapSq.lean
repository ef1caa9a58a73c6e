/- A map from squares to pieces that the call made, as a function of the square (0 where nothing is). -/
import Derived.Test.YthdbgjhonnogpaaDoorRowsK
import Derived.Maps.OwnSet
import Derived.Maps.OwnOps
namespace Go.Proofs.YthdbgjhonnogpaaDoor
open Go.ChangeShapes Go.WideShapes Go.ChangeAt Go.RowKit Go.Maps
set_option linter.unusedVariables false

abbrev tSq : TypeId := 51
abbrev tPc : TypeId := 80
abbrev tMap : TypeId := 79
theorem wf_i8 {n : Int} (h0 : -128 ≤ n) (h1 : n ≤ 127) : (Lit.int .i8 n).wf = true := by
  simp only [Lit.wf, Bool.and_eq_true, decide_eq_true_eq]
  simp [IntKind.min, IntKind.max, IntKind.signed, IntKind.bits]
  omega
def keySq (s : Nat) : Lit := .int .i8 (s : Int)
def mapIs (w : World) (bm : Nat) (n : Nat) (v : Nat → Int) : Prop :=
  ∃ D : DataW Unit, w.ownsMap Tryd.prog tSq (plainElem Tryd.prog tPc) bm n D ∧ IsMap D ∧
    ∀ s, s < 64 → D.atKey (keySq s) (.lit (.int .i8 0)) = .lit (.int .i8 (v s)) ∧ (Maps.has D (keySq s) = false → v s = 0)

theorem mapIs_congr {w : World} {bm n : Nat} {v u : Nat → Int} (h : mapIs w bm n v) (e : ∀ s, s < 64 → v s = u s) : mapIs w bm n u := by
  obtain ⟨D, h1, h2, h3⟩ := h
  exact ⟨D, h1, h2, fun s hs => by rw [← e s hs]; exact h3 s hs⟩
theorem mapIs_lt {w : World} {bm n : Nat} {v : Nat → Int} (h : mapIs w bm n v) : bm < w.heap.size := by
  obtain ⟨D, ⟨es, c, hb, _⟩, _⟩ := h
  obtain ⟨hlt, _⟩ := Array.getElem?_eq_some_iff.1 hb
  exact hlt
theorem mapIs_of_block {w w' : World} {bm n : Nat} {v : Nat → Int} (h : mapIs w bm n v) (e : w'.heap[bm]? = w.heap[bm]?) : mapIs w' bm n v := by
  obtain ⟨D, ⟨es, c, hb, h1⟩, h2⟩ := h
  exact ⟨D, ⟨es, c, e.trans hb, h1⟩, h2⟩
theorem mapIs_below {w w' : World} {B bm n : Nat} {v : Nat → Int} (h : mapIs w bm n v) (hb : Below B w w') (hB : bm < B) : mapIs w' bm n v := mapIs_of_block h (hb.block bm hB)
theorem mapIs_made (w : World) : mapIs (w.alloc (.map #[] 0)) w.heap.size 0 (fun _ => 0) :=
  ⟨.map [], World.ownsMap_made _ _ _ _, isMap_empty, fun s _ => ⟨rfl, fun _ => rfl⟩⟩
theorem wpList_lookupSq {ops : Array Oper} {rest : List Oper} {o : Oper} {a : Act} {Q : Exit → Act → World → Prop} (w : World) (hg : o.guard = none) (m x : Operand) (hop : o.op = Op.lookup tMap m x true)
    (bm n : Nat) (v : Nat → Int) (hm : a.eval m = .map (some bm)) (h : mapIs w bm n v) (s : Nat) (hs : s < 64) (hx : a.eval x = .int .i8 (s : Int))
    (hK : ∀ b, (b = false → v s = 0) → wpList Tryd.prog ops Q rest (a.put o.dst (.tuple #[.int .i8 (v s), .bool b])) w) : wpList Tryd.prog ops Q (o :: rest) a w := by
  obtain ⟨D, h1, h2, h3⟩ := h
  refine wpList_lookup_own_ok_int w hg m x tMap hop tSq tPc .i8 (int_keyed Tryd.underlying51) Tryd.underlying79 Tryd.underlying80 (by kernel_rfl) bm n D hm h1 (.int .i8 (s : Int)) (keySq s) hx (keyOf_int_mk Tryd.underlying51 (wf_i8 (by omega) (by omega))) ?_
  intro c hc hwf
  have := (h3 s hs).1.symm.trans hc
  simp only [DataW.lit.injEq, Lit.int.injEq, true_and] at this
  rw [← this]
  exact hK _ (h3 s hs).2
theorem wpList_storeSq {ops : Array Oper} {rest : List Oper} {o : Oper} {a : Act} {Q : Exit → Act → World → Prop} (w : World) (hg : o.guard = none) (m x y : Operand) (hop : o.op = Op.mapUpdate tMap m x y)
    (bm n : Nat) (v : Nat → Int) (hm : a.eval m = .map (some bm)) (h : mapIs w bm n v) (hn : n < 100000) (s : Nat) (hs : s < 64) (hx : a.eval x = .int .i8 (s : Int)) (p : Int) (hp0 : 0 ≤ p) (hp1 : p ≤ 12) (hy : a.eval y = .int .i8 p)
    (hK : ∀ w', mapIs w' bm (n + 1) (fun j => if j = s then p else v j) → w.grownBy w' (some bm) → wpList Tryd.prog ops Q rest (a.put o.dst undef) w') : wpList Tryd.prog ops Q (o :: rest) a w := by
  obtain ⟨D, h1, h2, h3⟩ := h
  refine wpList_mapUpdate_own w hg m x y tMap hop tSq tPc (int_keyed Tryd.underlying51) Tryd.underlying79 _ bm n D hm h1 (by unfold maxLen; omega) (.int .i8 (s : Int)) (.int .i8 p) (keySq s) hx hy (keyOf_int_mk Tryd.underlying51 (wf_i8 (by omega) (by omega))) _ [] (plainElem_int Tryd.underlying80 (wf_i8 (by omega) (by omega))) ?_
  intro w' hown hgrow
  refine hK w' ⟨_, hown, h2.put _ _, fun j hj => ?_⟩ hgrow
  have hkl : WideAt.IsKeyLit (keySq s) := trivial
  by_cases e : j = s
  · subst e
    rw [atKey_put_same h2 hkl, has_put_same h2 hkl]
    simp
  · have hne : keySq j ≠ keySq s := by
      intro h; simp only [keySq, Lit.int.injEq, true_and] at h; omega
    rw [atKey_put_other hne, has_put_other hne]
    simpa [e] using h3 j hj
end Go.Proofs.YthdbgjhonnogpaaDoor

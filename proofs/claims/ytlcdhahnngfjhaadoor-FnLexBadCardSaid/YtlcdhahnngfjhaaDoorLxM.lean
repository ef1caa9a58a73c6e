/- The laws' tools: two lists of tokens held together; a token of the reference. -/
import Derived.Test.YtlcdhahnngfjhaaDoorLxL
import Derived.Laws.AppendOwnNone
import Derived.Laws.OwnMore
import Derived.Laws.StructEq
namespace Go.Proofs.YtlcdhahnngfjhaaDoor
open Go.Proofs Go.Shelf Go.Lib Go.ChangeShapes Go.WideShapes Go.ChangeAt Go.RowKit Go.PlainAid
set_option maxHeartbeats 2000000
set_option linter.unusedVariables false
set_option linter.unusedSimpArgs false
attribute [local go_sem] tx_list tx_size bt_tx

/-- A slice of tokens as the thin package tells them. -/
def Toks (B : Nat) (v : Value) (l : List Tk) (w : World) : Prop := w.ownsRow B 26 3 v l.length (cells3 (l.map tokX))
theorem Toks.below {B : Nat} {v : Value} {l : List Tk} {w w' : World} (h : Toks B v l w) (hb : Below w.heap.size w w') : Toks B v l w' := own_keep3 h hb
theorem toks_cells {B : Nat} {v : Value} {l : List Tk} {w : World} (h : Toks B v l w) : ∃ a c, v = .slice a l.length c ∧ (0 < l.length → ∃ gq, a = some ⟨gq, 0, none⟩ ∧ B ≤ gq ∧ gq < w.heap.size ∧ ∀ i (h : i < l.length), w.cell? ⟨gq, i * 3, none⟩ = some (.int .i64 l[i].t) ∧ w.cell? ⟨gq, i * 3 + 1, none⟩ = some (.string (tx l[i].v)) ∧ w.cell? ⟨gq, i * 3 + 2, none⟩ = some (.bool l[i].bad)) := by
  have h' : w.ownsRow B 26 3 v (l.map tokX).length (cells3 (l.map tokX)) := by rw [List.length_map]; exact h
  obtain ⟨a, c, rfl, hc⟩ := own3_cells h'
  have hlm : (l.map tokX).length = l.length := List.length_map ..
  refine ⟨a, c, by rw [hlm], fun hp => ?_⟩
  obtain ⟨gq, e1, e2, e3, e4⟩ := hc (by omega)
  refine ⟨gq, e1, e2, e3, fun i hi => ?_⟩
  have q0 := e4 i (by omega) 0 (by omega)
  have q1 := e4 i (by omega) 1 (by omega)
  have q2 := e4 i (by omega) 2 (by omega)
  rw [List.getElem_map] at q0 q1 q2
  exact ⟨q0, q1, q2⟩
set_option maxRecDepth 100000 in
theorem lexSame_any (l : List Tk) (hgood : ∀ k ∈ l, k.bad = false) (hl : l.length ≤ 100000) (B1 B2 : Nat) (v1 v2 : Value) (w : World) (h1 : Toks B1 v1 l w) (h2 : Toks B2 v2 l w) :
    Calls Tryd.prog 7 #[v1, v2] w fun e w' => e = .returned (.bool true) ∧ Below w.heap.size w w' := by
  obtain ⟨a1, n1, rfl, hc1⟩ := toks_cells h1
  obtain ⟨a2, n2, rfl, hc2⟩ := toks_cells h2
  have hc : ∀ i (h : i < l.length), ∃ g1 g2, a1 = some ⟨g1, 0, none⟩ ∧ a2 = some ⟨g2, 0, none⟩ ∧ g1 < w.heap.size ∧ g2 < w.heap.size ∧
      (w.cell? ⟨g1, i * 3, none⟩ = some (.int .i64 l[i].t) ∧ w.cell? ⟨g1, i * 3 + 1, none⟩ = some (.string (tx l[i].v)) ∧ w.cell? ⟨g1, i * 3 + 2, none⟩ = some (.bool false)) ∧
      (w.cell? ⟨g2, i * 3, none⟩ = some (.int .i64 l[i].t) ∧ w.cell? ⟨g2, i * 3 + 1, none⟩ = some (.string (tx l[i].v)) ∧ w.cell? ⟨g2, i * 3 + 2, none⟩ = some (.bool false)) := fun i hi => by
    obtain ⟨g1, e1, _, e2, e3⟩ := hc1 (by omega)
    obtain ⟨g2, f1, _, f2, f3⟩ := hc2 (by omega)
    have hb := hgood l[i] (List.getElem_mem hi)
    have q := e3 i hi
    have r := f3 i hi
    rw [hb] at q r
    exact ⟨g1, g2, e1, f1, e2, f2, q, r⟩
  replace hc := Lib.hid hc
  clear hc1 hc2 h1 h2 hgood
  go_enter Tryd.func7, Tryd.ntmps7
  go_wp2_with (fail)
  go_loopw [13] (fun i wr => ∃ k : Nat, k ≤ l.length ∧ i = .int .i64 (k : Int) ∧ Below w.heap.size w wr) (fun i _ => l.length - (match i with | .int _ n => n.toNat | _ => 0))
  case atStart => exact ⟨0, by omega, rfl, Below.refl _ _⟩
  case round =>
    obtain ⟨k, hk, rfl, hB⟩ := hrel
    by_cases hlt : k < l.length
    · have hd : decide ((k : Int) < (l.length : Int)) = true := decide_eq_true (by omega)
      have hkx : (k : Int) < (l.length : Int) := by omega
      obtain ⟨g1, g2, rfl, rfl, q1, q2, ⟨x0, x1, x2⟩, y0, y1, y2⟩ := hc.out k hlt
      have hq1 : ∀ j, wr.cell? ⟨g1, j, none⟩ = w.cell? ⟨g1, j, none⟩ := fun j => hB.cell q1
      have hq2 : ∀ j, wr.cell? ⟨g2, j, none⟩ = w.cell? ⟨g2, j, none⟩ := fun j => hB.cell q2
      rw [← hq1] at x0 x1 x2
      rw [← hq2] at y0 y1 y2
      clear hq1 hq2 hc q1 q2
      generalize l[k].t = kt at *
      generalize l[k].v = kv at *
      go_upto_region 6 with (fail)
      go_quiet (fail)
      have hB2 := Lib.hid (hB.trans (⟨rfl, rfl, rfl, Nat.le_refl _, fun _ _ => rfl⟩ : Below w.heap.size wr (wr.drewN nq)))
      go_wp2_with (fail)
      exact ⟨⟨k + 1, by omega, by go_num, hB2.out⟩, by simp; omega⟩
    · obtain rfl : k = l.length := by omega
      have hd : decide ((l.length : Int) < (l.length : Int)) = false := decide_eq_false (by omega)
      replace hB := Lib.hid hB
      clear hc
      go_wp2_with (fail)
      go_ret
      exact ⟨rfl, hB.out⟩
theorem lexOf_any (t : Int) (s : ByteArray) (w : World) : Calls Tryd.prog 13 #[.int .i64 t, .string s] w fun e w' => e = .returned (.agg #[.int .i64 t, .string s, .bool false]) ∧ Below w.heap.size w w' := by
  have hr1 := row_lit w #[.int .i64 0, .string ⟨#[]⟩, .bool false] 26
  have hb1 : Below w.heap.size w (w.alloc (.cells #[.int .i64 0, .string ⟨#[]⟩, .bool false] 26)) := (Below.refl _ _).alloc (Nat.le_refl _) _
  go_enter Tryd.func13, Tryd.ntmps13
  go_upto_region 1 with (fail)
  generalize (w.alloc (.cells #[.int .i64 0, .string ⟨#[]⟩, .bool false] 26)) = w1 at *
  have hr1' : w1.rowIs w.heap.size 26 3 (fun j => (#[Value.int .i64 0, .string ⟨#[]⟩, .bool false] : Array Value).getD j undef) := hr1
  replace hr1' := Lib.hid hr1'
  clear hr1
  go_wp2_with (refine wpList_store_mid rfl 26 _ _ rfl w.heap.size 0 #[.int .i64 t, .string s, .bool false] rfl rfl (rowIs_there hr1'.out) (by kernel_rfl) (by simp [Value.oneCell']) ?_)
  exact bodyPost_ret (results_cell_row rfl _ _ w.heap.size _ _ (0, 0) _ rfl (rowIs_block (row_store hr1'.out #[.int .i64 t, .string s, .bool false] rfl)) Tryd.underlying26 rfl (by kernel_rfl)) rfl ⟨rfl, below_setCells (Nat.le_refl _) _ _ _ hb1⟩
theorem toks_one (l : List Tk) : ∀ u ∈ cells3 (l.map tokX), u.oneCell' = true := by
  intro u hu
  simp only [cells3, List.mem_flatMap, List.mem_map] at hu
  obtain ⟨x, ⟨k, _, rfl⟩, hm⟩ := hu
  simp [enc3, tokX] at hm
  rcases hm with rfl | rfl | rfl <;> rfl
theorem cells3_len (l : List X3) : (cells3 l).length = l.length * 3 := by
  induction l with
  | nil => rfl
  | cons x r ih => simp [cells3, enc3] at ih ⊢; omega
/-- 'append' of one slice of tokens to another. -/
theorem wpList_cat3 {ops : Array Oper} {rest : List Oper} {o : Oper} {ac : Act} {w : World} {Q : Exit → Act → World → Prop} (hgd : o.guard = none) (s x : Operand) (ho : o.op = .call { callee := .builtin .append, args := #[s, x], argTypes := #[22, 22] })
    (B : Nat) (v0 : Value) (l0 : List Tk) (hs : ac.eval s = v0) (hown : Toks B v0 l0 w) (hB : B ≤ w.heap.size) (B1 : Nat) (vv : Value) (l : List Tk) (hx : ac.eval x = vv) (hT : Toks B1 vv l w) (hn : l0.length + l.length ≤ 1000000)
    (h : ∀ v' w', Toks B v' (l0 ++ l) w' → Below B w w' → wpList Tryd.prog ops Q rest (ac.put o.dst v') w') : wpList Tryd.prog ops Q (o :: rest) ac w := by
  obtain ⟨i0, hi, hz0, hz1, hz2⟩ := info_parts infoOut
  unfold Toks at *
  rcases hT.2 with ⟨rfl, hl0⟩ | ⟨g, cap, cur, rfl, hg, hgc, hc1, hc2, hc3, hc4⟩
  · refine wpList_append_own_none hgd s x 22 ho B 26 i0 3 Tryd.underlying22 hi v0 _ _ hs hown hx ?_
    have : l = [] := List.eq_nil_of_length_eq_zero (by first | exact hl0 | exact hl0.1 | omega)
    subst this
    exact h v0 w (by simpa using hown) (Below.refl _ _)
  · refine wpList_append_own w hgd s x 22 ho B 26 i0 (.agg #[.int .i64 0, .string ⟨#[]⟩, .bool false]) 3 32 Tryd.underlying22 hi hz0 hz1 hz2 rfl (by decide) v0 _ _ hs hown ⟨g, 0, none⟩ l.length cap (cells3 (l.map tokX)) hx (by rw [cells3_len, List.length_map]) (fun j u hj => ?_) (toks_one l) (by unfold maxLen; omega) (by omega) hB ?_
    · have hjl : j < l.length * 3 := by
        have := (List.getElem?_eq_some_iff.1 hj).1
        rw [cells3_len, List.length_map] at this; exact this
      rw [show (⟨g, 0, none⟩ : Addr).add j = ⟨g, 0 + j, none⟩ from Addr.add_mid g 0 j, Nat.zero_add, hT.cellAt j hjl]
      exact hj
    · intro v' w' hown' hgr _
      exact h v' w' (by rw [List.length_append, List.map_append]; simpa [cells3] using hown') ⟨hgr.os, hgr.tape, hgr.output, hgr.size, fun k hk => hgr.block k (by omega) (fun e => by have := (hown.lt k e.symm).1; omega)⟩
theorem toks_nil (B : Nat) (w : World) : Toks B (.slice none 0 0) [] w := World.ownsRow_nil _ _ _ _
theorem toks_lit1 {B : Nat} (w : World) (hB : B ≤ w.heap.size) (t : Int) (v : List UInt8) : Toks B (.slice (some ⟨w.heap.size, 0, none⟩) 1 1) [⟨false, v, t⟩] (w.alloc (.cells #[.int .i64 t, .string (tx v), .bool false] 26)) :=
  World.ownsRow_lit w #[.int .i64 t, .string (tx v), .bool false] 1 hB (by unfold maxLen; omega) rfl
end Go.Proofs.YtlcdhahnngfjhaaDoor

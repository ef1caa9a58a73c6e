/- Standard algebraic notation: the doors to the parts, and the text without signs. -/
import Derived.Test.YtkbbncobgmepbaaDoorSanParts
import Derived.Test.YtkbbncobgmepbaaDoorLayB
import Derived.Shelf.Strings.OnBuilder
namespace Go.Proofs.YtkbbncobgmepbaaDoor
open Go.ChangeShapes Go.WideShapes Go.ChangeAt Go.RowKit Go.PlainAid
set_option maxHeartbeats 1000000
set_option linter.unusedVariables false
set_option linter.unusedSimpArgs false
attribute [local go_sem] tx_list tx_size

/-- The parts and the error, together. -/
def Outcome (L : List UInt8) (l : List (List UInt8)) (er : Value) : Prop :=
  (SanR L (some l) ∧ l.length = 8 ∧ er = .nilIface) ∨ (SanR L none ∧ l = [] ∧ ∃ a, er = .iface 95 (.pointer (some ⟨a, 0, none⟩)))
theorem anp_out (L : List UInt8) (hL : L.length ≤ 100) (w : World) (hE : TabE w) :
    Calls Tryd.prog 42 #[.string (tx L)] w fun e w' => (∃ l er, e = .returned (.tuple #[.agg (eight l), er]) ∧ Outcome L l er) ∧ Below w.heap.size w w' :=
  (anp_any L hL w hE).mono fun e w' h => ⟨by
    rcases h.1 with ⟨l, h1, h2, h3⟩ | ⟨h1, a, h3⟩
    · exact ⟨l, _, h3, .inl ⟨h1, h2, rfl⟩⟩
    · exact ⟨[], _, h3, .inr ⟨h1, rfl, a, rfl⟩⟩, h.2⟩
set_option maxRecDepth 100000 in
theorem validate_any (L : List UInt8) (hL : L.length ≤ 100) (w : World) (hE : TabE w) :
    Calls Tryd.prog 27 #[.string (tx L)] w fun e w' => (∃ l er, e = .returned er ∧ Outcome L l er) ∧ Below w.heap.size w w' := by
  have ha := Lib.hid (anp_out L hL w hE)
  go_enter Tryd.func27, Tryd.ntmps27
  go_wp2_with (go_at_call 42; refine ha.out.mono ?_; rintro e w2 ⟨⟨l, er, rfl, hO⟩, hb2⟩; replace hO := Lib.hid hO; have hBX := Lib.hid (fun X => hb2.alloc hb2.size X); unfold eight)
  rcases hO.out with ⟨_, _, rfl⟩ | ⟨_, _, a, rfl⟩
  · go_wp2_with (fail)
    go_ret
    exact ⟨⟨l, _, rfl, hO.out⟩, hBX.out _⟩
  · go_wp2_with (fail)
    go_ret
    exact ⟨⟨l, _, rfl, hO.out⟩, hBX.out _⟩
set_option maxRecDepth 100000 in
theorem doorParts_any (L : List UInt8) (hL : L.length ≤ 100) (w : World) (hE : TabE w) :
    Calls Tryd.prog 24 #[.string (tx L)] w fun e w' => (∃ l er, e = .returned (.tuple #[.agg (eight l), er]) ∧ Outcome L l er) ∧ Below w.heap.size w w' := by
  have hrow := World.rowIs_alloc w (eight []) 22 (eightF []) (fun i hi => eight_get [] i hi)
  have hb0 : Below w.heap.size w (w.alloc (.cells (eight []) 22)) := (Below.refl _ _).alloc (Nat.le_refl _) _
  have hsz : (w.alloc (.cells (eight []) 22)).heap.size = w.heap.size + 1 := by simp
  have ha := Lib.hid (anp_out L hL (w.alloc (.cells (eight []) 22)) (hE.below hb0))
  clear hE
  go_enter Tryd.func24, Tryd.ntmps24
  go_wp2_with (fail)
  change Calls _ _ _ (w.alloc (.cells (eight []) 22)) _
  generalize (w.alloc (.cells (eight []) 22)) = w1 at *
  refine ha.out.mono ?_
  rintro e w2 ⟨⟨l, er, rfl, hO⟩, hb2⟩
  have hrow2 := rowIs_below hrow hb2 (by omega)
  have hBl := hb0.trans (hb2.mono (by omega))
  have hnew : ∀ X, (w2.alloc X).rowIs w.heap.size 22 8 (eightF []) := fun X => hrow2.alloc X
  have hBX : ∀ X, Below w.heap.size w (w2.alloc X) := fun X => hBl.alloc hBl.size X
  clear hrow2 hrow ha hb2 hb0 hBl
  replace hO := Lib.hid hO
  replace hnew := Lib.hid hnew
  replace hBX := Lib.hid hBX
  unfold eight
  go_wp2_with (refine wpList_store_mid rfl 22 _ _ rfl w.heap.size 0 (eight l) rfl rfl (rowIs_there (hnew.out _)) (by kernel_rfl) (by simp [eight, Value.oneCell']) ?_)
  have hrow3 := eight_row (l := l) (hnew.out (.cells #[.string (tx (l[0]?.getD [])), .string (tx (l[1]?.getD [])), .string (tx (l[2]?.getD [])), .string (tx (l[3]?.getD [])), .string (tx (l[4]?.getD [])), .string (tx (l[5]?.getD [])), .string (tx (l[6]?.getD [])), .string (tx (l[7]?.getD []))] 69))
  have hB3 := below_setCells (Nat.le_refl _) (eight l).toList 0 _ (hBX.out (.cells #[.string (tx (l[0]?.getD [])), .string (tx (l[1]?.getD [])), .string (tx (l[2]?.getD [])), .string (tx (l[3]?.getD [])), .string (tx (l[4]?.getD [])), .string (tx (l[5]?.getD [])), .string (tx (l[6]?.getD [])), .string (tx (l[7]?.getD []))] 69))
  generalize (w2.alloc (.cells #[.string (tx (l[0]?.getD [])), .string (tx (l[1]?.getD [])), .string (tx (l[2]?.getD [])), .string (tx (l[3]?.getD [])), .string (tx (l[4]?.getD [])), .string (tx (l[5]?.getD [])), .string (tx (l[6]?.getD [])), .string (tx (l[7]?.getD []))] 69)).setCells w.heap.size 0 (eight l).toList = wB at *
  have d0 := hrow3.cell (i := 0) (by omega)
  have d1 := hrow3.cell (i := 1) (by omega)
  have d2 := hrow3.cell (i := 2) (by omega)
  have d3 := hrow3.cell (i := 3) (by omega)
  have d4 := hrow3.cell (i := 4) (by omega)
  have d5 := hrow3.cell (i := 5) (by omega)
  have d6 := hrow3.cell (i := 6) (by omega)
  have d7 := hrow3.cell (i := 7) (by omega)
  clear hrow3
  replace hB3 := Lib.hid hB3
  rcases hO.out with ⟨_, _, rfl⟩ | ⟨_, _, a, rfl⟩
  all_goals
    go_wp2_with (fail)
    exact bodyPost_ret (v := .tuple #[.agg (eight l), _]) (by simp [results, Tryd.results24, go_sem, d0, d1, d2, d3, d4, d5, d6, d7]; rfl) rfl ⟨⟨l, _, rfl, hO.out⟩, hB3.out⟩
/-- What the text without signs holds: the parts' box and the builder. -/
def CleanW (l : List (List UInt8)) (acc : List UInt8) (w0 w : World) : Prop :=
  Lib.IsBuilder 81 5 (w0.heap.size + 1) (w0.heap.size + 1) (Lib.byteCells acc) w ∧ w.rowIs w0.heap.size 69 8 (eightF l) ∧ Below w0.heap.size w0 w ∧ w0.heap.size + 1 ≤ w.heap.size
theorem write_step {l : List (List UInt8)} {acc : List UInt8} {w0 w : World} (h : CleanW l acc w0 w) (x : List UInt8) (hl : acc.length + x.length ≤ 2000) :
    Calls Tryd.prog 53 #[.pointer (some ⟨w0.heap.size + 1, 0, none⟩), .string (tx x)] w fun e w' => e = .returned (.tuple #[.int .i64 ((tx x).size : Nat), .nilIface]) ∧ CleanW l (acc ++ x) w0 w' := by
  obtain ⟨h1, h2, h3, h4⟩ := h
  refine (Any.Builder_WriteString lays_Lays_n166 lays_Builder_Extra (w0.heap.size + 1) (w0.heap.size + 1) (Lib.byteCells acc) (tx x) w h1 (by rw [Lib.byteCells_length, tx_size]; omega) h4).mono ?_
  rintro e w' ⟨rfl, hb, hbl⟩
  refine ⟨rfl, .inr ?_, rowIs_below h2 hbl (by omega), h3.trans (hbl.mono (by omega)), Nat.le_trans h4 hbl.size⟩
  have e1 : Lib.byteCells (acc ++ x) = Lib.byteCells acc ++ Lib.strCells (tx x) := by simp [Lib.byteCells, Lib.strCells, tx]
  rw [e1]; exact hb
theorem reset_new (w : World) (b : Nat) (hb : b = w.heap.size) :
    Calls Tryd.prog 52 #[.pointer (some ⟨b, 0, none⟩)] (w.alloc (.cells #[.pointer none, .slice none 0 0] 81)) fun e w' => e = .returned (.tuple #[]) ∧ w.alloc (.cells #[.pointer none, .slice none 0 0] 81) = w' := by
  subst hb
  go_enter Tryd.func52, Tryd.ntmps52
  go_wp2
  first | go_end0 | refine bodyPost_ret (results_none rfl _ _ _) rfl ?_
  exact ⟨rfl, rfl⟩
def cat8 (l : List (List UInt8)) : List UInt8 := l.getD 0 [] ++ l.getD 1 [] ++ l.getD 2 [] ++ l.getD 3 [] ++ l.getD 4 [] ++ l.getD 5 [] ++ l.getD 6 [] ++ l.getD 7 []
set_option maxRecDepth 100000 in
theorem clean_any (l : List (List UInt8)) (hl : ∀ i, i < 8 → (l.getD i []).length ≤ 200) (w : World) :
    Calls Tryd.prog 43 #[.agg (eight l)] w fun e w' => e = .returned (.string (tx (cat8 l))) ∧ Below w.heap.size w w' := by
  have hrow := World.rowIs_alloc w (eight l) 69 (eightF l) (fun i hi => eight_get l i hi)
  have hb0 : Below w.heap.size w (w.alloc (.cells (eight l) 69)) := (Below.refl _ _).alloc (Nat.le_refl _) _
  have hsz : (w.alloc (.cells (eight l) 69)).heap.size = w.heap.size + 1 := by simp
  have hbd := Lib.fresh_isBuilder 81 5 (w.alloc (.cells (eight l) 69))
  rw [hsz] at hbd
  have hW : CleanW l [] w ((w.alloc (.cells (eight l) 69)).alloc (.cells #[.pointer none, .slice none 0 0] 81)) := ⟨hbd, hrow.alloc _, hb0.alloc (by simp) _, by simp⟩
  have l0 := hl 0 (by omega)
  have l1 := hl 1 (by omega)
  have l2 := hl 2 (by omega)
  have l3 := hl 3 (by omega)
  have l4 := hl 4 (by omega)
  have l5 := hl 5 (by omega)
  have l6 := hl 6 (by omega)
  have l7 := hl 7 (by omega)
  clear hbd hsz hb0 hrow hl
  have hcat : cat8 l = l.getD 0 [] ++ l.getD 1 [] ++ l.getD 2 [] ++ l.getD 3 [] ++ l.getD 4 [] ++ l.getD 5 [] ++ l.getD 6 [] ++ l.getD 7 [] := rfl
  replace hW := Lib.hid hW
  unfold eight at *
  have q0 : eightF l 0 = .string (tx (l.getD 0 [])) := rfl
  have q1 : eightF l 1 = .string (tx (l.getD 1 [])) := rfl
  have q2 : eightF l 2 = .string (tx (l.getD 2 [])) := rfl
  have q3 : eightF l 3 = .string (tx (l.getD 3 [])) := rfl
  have q4 : eightF l 4 = .string (tx (l.getD 4 [])) := rfl
  have q5 : eightF l 5 = .string (tx (l.getD 5 [])) := rfl
  have q6 : eightF l 6 = .string (tx (l.getD 6 [])) := rfl
  have q7 : eightF l 7 = .string (tx (l.getD 7 [])) := rfl
  generalize l.getD 0 [] = x0 at *
  replace q0 := Lib.hid q0
  generalize l.getD 1 [] = x1 at *
  replace q1 := Lib.hid q1
  generalize l.getD 2 [] = x2 at *
  replace q2 := Lib.hid q2
  generalize l.getD 3 [] = x3 at *
  replace q3 := Lib.hid q3
  generalize l.getD 4 [] = x4 at *
  replace q4 := Lib.hid q4
  generalize l.getD 5 [] = x5 at *
  replace q5 := Lib.hid q5
  generalize l.getD 6 [] = x6 at *
  replace q6 := Lib.hid q6
  generalize l.getD 7 [] = x7 at *
  replace q7 := Lib.hid q7
  replace hcat := Lib.hid hcat
  go_enter Tryd.func43, Tryd.ntmps43
  go_wp2_with (fail)
  refine (reset_new _ _ (by simp)).mono ?_
  rintro e w1 ⟨rfl, rfl⟩
  replace hW := hW.out
  generalize ((w.alloc _).alloc (.cells #[.pointer none, .slice none 0 0] 81)) = w1 at *
  have c := hW.2.1.cell (i := 0) (by omega)
  rw [q0.out] at c
  replace hW := Lib.hid hW
  go_wp2_with (fail)
  refine (write_step hW.out x0 (by simp only [List.length_append, List.length_nil]; omega)).mono ?_
  rintro e w2 ⟨rfl, hW⟩
  clear c
  have c := hW.2.1.cell (i := 1) (by omega)
  rw [q1.out] at c
  replace hW := Lib.hid hW
  go_wp2_with (fail)
  refine (write_step hW.out x1 (by simp only [List.length_append, List.length_nil]; omega)).mono ?_
  rintro e w3 ⟨rfl, hW⟩
  clear c
  have c := hW.2.1.cell (i := 2) (by omega)
  rw [q2.out] at c
  replace hW := Lib.hid hW
  go_wp2_with (fail)
  refine (write_step hW.out x2 (by simp only [List.length_append, List.length_nil]; omega)).mono ?_
  rintro e w4 ⟨rfl, hW⟩
  clear c
  have c := hW.2.1.cell (i := 3) (by omega)
  rw [q3.out] at c
  replace hW := Lib.hid hW
  go_wp2_with (fail)
  refine (write_step hW.out x3 (by simp only [List.length_append, List.length_nil]; omega)).mono ?_
  rintro e w5 ⟨rfl, hW⟩
  clear c
  have c := hW.2.1.cell (i := 4) (by omega)
  rw [q4.out] at c
  replace hW := Lib.hid hW
  go_wp2_with (fail)
  refine (write_step hW.out x4 (by simp only [List.length_append, List.length_nil]; omega)).mono ?_
  rintro e w6 ⟨rfl, hW⟩
  clear c
  have c := hW.2.1.cell (i := 5) (by omega)
  rw [q5.out] at c
  replace hW := Lib.hid hW
  go_wp2_with (fail)
  refine (write_step hW.out x5 (by simp only [List.length_append, List.length_nil]; omega)).mono ?_
  rintro e w7 ⟨rfl, hW⟩
  clear c
  have c := hW.2.1.cell (i := 6) (by omega)
  rw [q6.out] at c
  replace hW := Lib.hid hW
  go_wp2_with (fail)
  refine (write_step hW.out x6 (by simp only [List.length_append, List.length_nil]; omega)).mono ?_
  rintro e w8 ⟨rfl, hW⟩
  clear c
  have c := hW.2.1.cell (i := 7) (by omega)
  rw [q7.out] at c
  replace hW := Lib.hid hW
  go_wp2_with (fail)
  refine (write_step hW.out x7 (by simp only [List.length_append, List.length_nil]; omega)).mono ?_
  rintro e w9 ⟨rfl, hW⟩
  clear c
  generalize hacc : [] ++ x0 ++ x1 ++ x2 ++ x3 ++ x4 ++ x5 ++ x6 ++ x7 = acc at hW
  have hfin : cat8 l = acc := by rw [← hacc, hcat.out]; simp
  replace hW := Lib.hid hW
  replace hfin := Lib.hid hfin
  clear hacc
  go_wp2_with (fail)
  refine (Any.Builder_String_any lays_Lays_n169 lays_Builder_Extra (w.heap.size + 1) (w.heap.size + 1) _ w9 hW.out.1 hW.out.2.2.2).mono ?_
  rintro e w10 ⟨rfl, hb⟩
  go_wp2_with (fail)
  go_ret
  exact ⟨by rw [hfin.out]; rfl, hW.out.2.2.1.trans (hb.mono (by omega))⟩
theorem mid_len (L : List UInt8) (a b : Nat) : (mid L a b).length ≤ L.length := by
  unfold mid
  rw [List.length_drop, List.length_take]; omega
theorem outcome_len {L : List UInt8} {l : List (List UInt8)} {er : Value} (h : Outcome L l er) (hL : L.length ≤ 100) : ∀ i, i < 8 → (l.getD i []).length ≤ 200 := by
  intro i hi
  have hi' : i = 0 ∨ i = 1 ∨ i = 2 ∨ i = 3 ∨ i = 4 ∨ i = 5 ∨ i = 6 ∨ i = 7 := by omega
  rcases h with ⟨h, _, _⟩ | ⟨_, rfl, _⟩
  · rcases h with ⟨a, b, c, d, p, _, rfl⟩ | ⟨_, _, rfl⟩ | ⟨_, _, _, rfl⟩
    · rcases hi' with rfl | rfl | rfl | rfl | rfl | rfl | rfl | rfl
      · have := mid_len L 0 a; show (mid L 0 a).length ≤ 200; omega
      · have := mid_len L a (a + b); show (mid L a (a + b)).length ≤ 200; omega
      · have := mid_len L (a + b) (a + b + c); show (mid L (a + b) (a + b + c)).length ≤ 200; omega
      · have := mid_len L (a + b + c) (a + b + c + d); show (mid L (a + b + c) (a + b + c + d)).length ≤ 200; omega
      · have := mid_len L (a + b + c + d) (a + b + c + d + 1); show (mid L (a + b + c + d) (a + b + c + d + 1)).length ≤ 200; omega
      · have := mid_len L (a + b + c + d + 1) (a + b + c + d + 2); show (mid L (a + b + c + d + 1) (a + b + c + d + 2)).length ≤ 200; omega
      · have := mid_len L (a + b + c + d + 2) (a + b + c + d + 2 + p); show (mid L (a + b + c + d + 2) (a + b + c + d + 2 + p)).length ≤ 200; omega
      · show ([] : List UInt8).length ≤ 200; simp
    · rcases hi' with rfl | rfl | rfl | rfl | rfl | rfl | rfl | rfl <;> simp [castA]
    · rcases hi' with rfl | rfl | rfl | rfl | rfl | rfl | rfl | rfl <;> simp [castO]
  · simp
set_option maxRecDepth 100000 in
theorem doorClean_any (L : List UInt8) (hL : L.length ≤ 100) (w : World) (hE : TabE w) :
    Calls Tryd.prog 26 #[.string (tx L)] w fun e w' => (∃ l er, e = .returned (.tuple #[.string (tx (cat8 l)), er]) ∧ Outcome L l er) ∧ Below w.heap.size w w' := by
  have ha := Lib.hid (anp_out L hL w hE)
  go_enter Tryd.func26, Tryd.ntmps26
  go_wp2_with (fail)
  refine ha.out.mono ?_
  rintro e w2 ⟨⟨l, er, rfl, hO⟩, hb2⟩
  have hcl := Lib.hid (fun w => clean_any l (outcome_len hO hL) w)
  have hBX := Lib.hid (fun X => hb2.alloc hb2.size X)
  replace hO := Lib.hid hO
  unfold eight at *
  go_wp2_with (go_at_call 43; refine (hcl.out _).mono ?_; rintro e w3 ⟨rfl, hb3⟩)
  rcases hO.out with ⟨_, _, rfl⟩ | ⟨_, _, a, rfl⟩
  all_goals
    go_wp2_with (fail)
    first | go_ret2 | go_ret3
    exact ⟨⟨l, _, rfl, hO.out⟩, (hBX.out _).trans (hb3.mono (hBX.out _).size)⟩
end Go.Proofs.YtkbbncobgmepbaaDoor

/- OptionRead: the program reads an option's text back. -/
import Derived.Test.YtkbbncobgmepbaaOptRead
import Derived.Lib.ConvBytes
import Derived.Laws.IdiomStrings
namespace Go.Proofs.Ytkbbncobgmepbaa
open Go.ChangeShapes Go.WideShapes Go.ChangeAt Go.RowKit Go.PlainAid
set_option maxHeartbeats 1000000
set_option linter.unusedVariables false
set_option linter.unusedSimpArgs false
attribute [local go_sem] tx_list tx_size
theorem below_bytes (w : World) (s : ByteArray) : Below w.heap.size w (Lib.bytesWorld w 5 s) := by
  refine ⟨?_, ?_, ?_, by rw [Lib.bytesWorld_size]; omega, fun k hk => Lib.bytesWorld_at_old _ _ _ k hk⟩
  all_goals (unfold Lib.bytesWorld World.freeze; split <;> rfl)
def zO : Array Value := #[.string ⟨#[]⟩, .string ⟨#[]⟩, .string ⟨#[]⟩, .string ⟨#[]⟩, .string ⟨#[]⟩, .slice none 0 0]
def zF (j : Nat) : Value := if j = 5 then .slice none 0 0 else .string ⟨#[]⟩
theorem zO_get (i : Nat) (h : i < 6) : zO[i]? = some (zF i) := by
  have : i = 0 ∨ i = 1 ∨ i = 2 ∨ i = 3 ∨ i = 4 ∨ i = 5 := by omega
  rcases this with rfl | rfl | rfl | rfl | rfl | rfl <;> rfl
def laid3 (w : World) : World := ((w.alloc (.cells zO 24)).alloc (.cells #[.bool false] 4)).alloc (.cells zO 37)
theorem laid3_facts (w : World) : (laid3 w).heap.size = w.heap.size + 3 ∧ (laid3 w).rowIs w.heap.size 24 6 zF ∧ (laid3 w).rowIs (w.heap.size + 1) 4 1 (fun _ => .bool false) ∧ (laid3 w).rowIs (w.heap.size + 1 + 1) 37 6 zF ∧ Below w.heap.size w (laid3 w) := by
  have h1 := World.rowIs_alloc w zO 24 zF (fun i hi => zO_get i hi)
  have h2 := World.rowIs_alloc (w.alloc (.cells zO 24)) #[.bool false] 4 (fun _ => .bool false) (fun i hi => by obtain rfl : i = 0 := (by simp at hi; omega); rfl)
  have h3 := World.rowIs_alloc ((w.alloc (.cells zO 24)).alloc (.cells #[.bool false] 4)) zO 37 zF (fun i hi => zO_get i hi)
  rw [World.size_alloc] at h2
  rw [World.size_alloc, World.size_alloc] at h3
  exact ⟨by simp [laid3], (h1.alloc _).alloc _, h2.alloc _, h3, (((Below.refl _ _).alloc (Nat.le_refl _) _).alloc (by simp) _).alloc (by simp; omega) _⟩
theorem bytes_set {w : World} (s : ByteArray) (g i : Nat) (v : Value) (hg : g ≠ w.heap.size) (cap : Nat) :
    (convert 41 9 (.slice (some ⟨w.heap.size, 0, none⟩) s.size cap)).run Try.prog ((Lib.bytesWorld w 5 s).setCell ⟨g, i, none⟩ v) = .ok (.string s) ((Lib.bytesWorld w 5 s).setCell ⟨g, i, none⟩ v) := by
  have hl : s.data.toList.length = s.size := by simp
  have := run_convert_bytes_back (P := Try.prog) ((Lib.bytesWorld w 5 s).setCell ⟨g, i, none⟩ v) 41 9 5 ⟨w.heap.size, 0, none⟩ cap s.data.toList Try.underlying41 Try.underlying5 Try.underlying9 (fun j hj => by
    have hj' : j < s.size := hl ▸ hj
    have hbl : ((Lib.bytesWorld w 5 s).setCell ⟨g, i, none⟩ v).heap[w.heap.size]? = (Lib.bytesWorld w 5 s).heap[w.heap.size]? := Below.heap_setCell _ _ _ _ (fun e => hg e.symm)
    rw [show (⟨w.heap.size, 0, none⟩ : Addr).add j = ⟨w.heap.size, j, none⟩ from by unfold Addr.add; split <;> simp_all, World.cell?_of_block (a := ⟨w.heap.size, j, none⟩) hbl, Lib.bytesWorld_cell _ _ _ _ hj']
    simp [List.getD, hj'])
  rw [hl] at this
  simpa using this
/-- What the results' region leaves as it is. -/
def ResO (w : World) (f : Nat → List UInt8) (l : List (List UInt8)) (vv : Value) (v : World) : Prop :=
  v.rowIs (w.heap.size + 1 + 1) 37 6 (fun j => if j = 5 then vv else .string (tx (f j))) ∧ (∃ F, v.rowIs w.heap.size 24 6 F) ∧ (∃ z, v.rowIs (w.heap.size + 1) 4 1 (fun _ => .bool z)) ∧ TextsAt v vv l ∧ Below w.heap.size w v ∧ ∀ k, vv.ownBlock = some k → w.heap.size + 2 ≤ k
theorem TextsAt.keep {w w' : World} {v : Value} {l : List (List UInt8)} (h : TextsAt w v l) (hs : w.heap.size ≤ w'.heap.size) (hb : ∀ k, v.ownBlock = some k → w'.heap[k]? = w.heap[k]?) : TextsAt w' v l := by
  rcases h with h | ⟨g, o, cap, rfl, hg, hc⟩
  · exact .inl h
  · exact .inr ⟨g, o, cap, rfl, Nat.lt_of_lt_of_le hg hs, fun i hi => by rw [World.cell?_of_block (a := ⟨g, o + i, none⟩) (hb g rfl)]; exact hc i hi⟩
theorem ResO.below {w v v' : World} {f : Nat → List UInt8} {l : List (List UInt8)} {vv : Value} (h : ResO w f l vv v) (hb : Below v.heap.size v v') : ResO w f l vv v' := by
  obtain ⟨h1, ⟨F, h2⟩, ⟨z, h3⟩, h4, h5, h6⟩ := h
  exact ⟨rowIs_below h1 hb h1.lt, ⟨F, rowIs_below h2 hb h2.lt⟩, ⟨z, rowIs_below h3 hb h3.lt⟩, h4.below hb, h5.trans (hb.mono h5.size), h6⟩
theorem ResO.set {w v : World} {f : Nat → List UInt8} {l : List (List UInt8)} {vv : Value} (h : ResO w f l vv v) (j : Nat) (x : Value) : ResO w f l vv (v.setCell ⟨w.heap.size, j, none⟩ x) := by
  obtain ⟨h1, ⟨F, h2⟩, ⟨z, h3⟩, h4, h5, h6⟩ := h
  exact ⟨h1.setOther (by simp; omega) _, ⟨_, h2.set j x⟩, ⟨z, h3.setOther (by simp) _⟩, h4.keep (by simp) (fun k hk => Below.heap_setCell _ _ _ _ (by have := h6 k hk; simp; omega)), h5.setCell (by simp) _, h6⟩
theorem ResO.setB {w v : World} {f : Nat → List UInt8} {l : List (List UInt8)} {vv : Value} (h : ResO w f l vv v) (b : Bool) : ResO w f l vv (v.setCell ⟨w.heap.size + 1, 0, none⟩ (.bool b)) := by
  obtain ⟨h1, ⟨F, h2⟩, ⟨z, h3⟩, h4, h5, h6⟩ := h
  exact ⟨h1.setOther (by simp) _, ⟨F, h2.setOther (by simp) _⟩, ⟨b, (h3.set 0 (.bool b)).congr fun j hj => (by obtain rfl : j = 0 := (by omega); simp)⟩, h4.keep (by simp) (fun k hk => Below.heap_setCell _ _ _ _ (by have := h6 k hk; simp; omega)), h5.setCell (by simp) _, h6⟩
theorem ResO.there {w v : World} {f : Nat → List UInt8} {l : List (List UInt8)} {vv : Value} (h : ResO w f l vv v) : v.there w.heap.size 0 6 := by
  obtain ⟨h1, ⟨F, h2⟩, _⟩ := h
  intro j hj
  rw [Nat.zero_add]
  exact ⟨by rw [h2.cell hj]; rfl, h2.frozen j⟩
theorem set_six (b : Nat) (v : World) (x0 x1 x2 x3 x4 x5 : Value) : v.setCells b 0 [x0, x1, x2, x3, x4, x5] = (((((v.setCell ⟨b, 0, none⟩ x0).setCell ⟨b, 1, none⟩ x1).setCell ⟨b, 2, none⟩ x2).setCell ⟨b, 3, none⟩ x3).setCell ⟨b, 4, none⟩ x4).setCell ⟨b, 5, none⟩ x5 := rfl
def sixF (x0 x1 x2 x3 x4 x5 : Value) (j : Nat) : Value := if j = 0 then x0 else if j = 1 then x1 else if j = 2 then x2 else if j = 3 then x3 else if j = 4 then x4 else x5
theorem ResO.set6 {w v : World} {f : Nat → List UInt8} {l : List (List UInt8)} {vv : Value} (h : ResO w f l vv v) (x0 x1 x2 x3 x4 x5 : Value) : ResO w f l vv (v.setCells w.heap.size 0 [x0, x1, x2, x3, x4, x5]) ∧ (v.setCells w.heap.size 0 [x0, x1, x2, x3, x4, x5]).rowIs w.heap.size 24 6 (sixF x0 x1 x2 x3 x4 x5) := by
  rw [set_six]
  refine ⟨(((((h.set 0 x0).set 1 x1).set 2 x2).set 3 x3).set 4 x4).set 5 x5, ?_⟩
  obtain ⟨h1, ⟨F, h2⟩, _⟩ := h
  refine ((((((h2.set 0 x0).set 1 x1).set 2 x2).set 3 x3).set 4 x4).set 5 x5).congr fun j hj => ?_
  have : j = 0 ∨ j = 1 ∨ j = 2 ∨ j = 3 ∨ j = 4 ∨ j = 5 := by omega
  rcases this with rfl | rfl | rfl | rfl | rfl | rfl <;> rfl
theorem set6_texts {w v : World} {v' : Value} {l : List (List UInt8)} (h : TextsAt v v' l) (hg : ∀ k, v'.ownBlock = some k → w.heap.size + 3 ≤ k) (x0 x1 x2 x3 x4 x5 : Value) : TextsAt (v.setCells w.heap.size 0 [x0, x1, x2, x3, x4, x5]) v' l := by
  rw [set_six]
  have one : ∀ (u : World) j x, TextsAt u v' l → TextsAt (u.setCell ⟨w.heap.size, j, none⟩ x) v' l := fun u j x hu => hu.keep (by simp) (fun k hk => Below.heap_setCell _ _ _ _ (by have := hg k hk; simp; omega))
  exact one _ 5 _ (one _ 4 _ (one _ 3 _ (one _ 2 _ (one _ 1 _ (one _ 0 _ h)))))
theorem wp_append_texts {o : Oper} {a : Act} {w : World} {K : Act → World → Prop} {Q : Exit → Act → World → Prop} (x : Operand) (ho : o.op = .call { callee := .builtin .append, args := #[.const (.slice none 0 0), x], argTypes := #[22, 22] })
    (vv : Value) (l : List (List UInt8)) (hx : a.eval x = vv) (hT : TextsAt w vv l) (hl : l.length ≤ 1000)
    (h : ∀ v' w', TextsAt w' v' l → Below w.heap.size w w' → (∀ k, v'.ownBlock = some k → w.heap.size ≤ k) → (∃ a k c, v' = .slice a k c) → K (a.put o.dst v') w') : o.wp Try.prog a w K Q := by
  obtain ⟨i0, hi, hz0, hz1, hz2⟩ := info_parts infoStr
  rcases hT with ⟨a0, c0, rfl, rfl, hn0⟩ | ⟨g, o', cap, rfl, hg, hc⟩
  · cases a0 with
    | none =>
      obtain rfl := hn0 rfl
      have hrun := run_append_owned_none (P := Try.prog) (w := w) w.heap.size 22 o.type 9 i0 1 Try.underlying22 hi (.slice none 0 0) 0 [] (World.ownsRow_nil _ _ _ _)
      have hs : a.eval (.const (.slice none 0 0)) = .slice none 0 0 := rfl
      unfold Oper.wp execOp
      simp only [ho, resolve, invoke, builtin, Sem.run_bind, Sem.run_pure, Result.andThen_ok, List.map_toArray, List.map_cons, List.map_nil, hs, hx, hrun]
      exact h _ _ (.inl ⟨none, 0, rfl, rfl, fun _ => rfl⟩) (Below.refl _ _) (by simp [Value.ownBlock]) ⟨_, _, _, rfl⟩
    | some ad =>
      refine wp_append_own w (.const (.slice none 0 0)) x 22 ho w.heap.size 9 i0 (.string ByteArray.empty) 1 16 Try.underlying22 hi hz0 hz1 hz2 rfl (by decide) (.slice none 0 0) 0 [] rfl (World.ownsRow_nil _ _ _ _) ad 0 c0 [] hx rfl (fun j u hj => by simp at hj) (fun u hu => by simp at hu) (by unfold maxLen; omega) (by omega) (Nat.le_refl _) ?_
      intro v' w' hown hgr hnil
      obtain rfl := hnil.2 ⟨rfl, rfl⟩
      exact h _ w' (.inl ⟨none, 0, rfl, rfl, fun _ => rfl⟩) ⟨hgr.os, hgr.tape, hgr.output, hgr.size, fun k hk => hgr.block k hk (by simp [Value.ownBlock])⟩ (by simp [Value.ownBlock]) ⟨_, _, _, rfl⟩
  · refine wp_append_own w (.const (.slice none 0 0)) x 22 ho w.heap.size 9 i0 (.string ByteArray.empty) 1 16 Try.underlying22 hi hz0 hz1 hz2 rfl (by decide) (.slice none 0 0) 0 [] rfl (World.ownsRow_nil _ _ _ _) ⟨g, o', none⟩ l.length cap (strs l) hx (by simp [strs]) (fun j u hj => ?_) (fun u hu => ?_) (by unfold maxLen; omega) (by omega) (Nat.le_refl _) ?_
    · have hjl : j < l.length := by
        rcases Nat.lt_or_ge j l.length with h | h
        · exact h
        · rw [List.getElem?_eq_none (by simpa [strs] using h)] at hj; cases hj
      rw [show (⟨g, o', none⟩ : Addr).add j = ⟨g, o' + j, none⟩ from Addr.add_mid g o' j, hc j hjl]
      simp only [strs, List.getElem?_map, List.getElem?_eq_getElem hjl, Option.map_some, Option.some.injEq] at hj
      rw [← hj, List.getD_eq_getElem?_getD, List.getElem?_eq_getElem hjl, Option.getD_some]
    · simp only [strs, List.mem_map] at hu
      obtain ⟨y, _, rfl⟩ := hu
      rfl
    · intro v' w' hown hgr hnil
      rw [Nat.zero_add, List.nil_append] at hown
      have hbl : Below w.heap.size w w' := ⟨hgr.os, hgr.tape, hgr.output, hgr.size, fun k hk => hgr.block k hk (by simp [Value.ownBlock])⟩
      refine h v' w' ?_ hbl (fun k hk => (hown.lt k hk).1) (own_slice hown)
      obtain ⟨hl', ⟨rfl, h0⟩ | ⟨g', cap', cur, rfl, _⟩⟩ := id hown
      · exact .inl ⟨none, 0, rfl, List.eq_nil_of_length_eq_zero h0, fun _ => rfl⟩
      · have hg' := (hown.lt g' rfl).2
        by_cases h0 : 0 < l.length
        · obtain ⟨g2, cap2, e, _, hg2, _, hc2⟩ := own_strs hown h0
          cases e
          exact .inr ⟨g', 0, cap', rfl, hg', fun i hi => by rw [Nat.zero_add]; exact hc2 i hi⟩
        · exact .inr ⟨g', 0, cap', rfl, hg', fun i hi => by omega⟩
theorem ResO.cells {w v : World} {f : Nat → List UInt8} {l : List (List UInt8)} {vv : Value} (h : ResO w f l vv v) : v.cell? ⟨w.heap.size + 1 + 1, 0, none⟩ = some (.string (tx (f 0))) ∧ v.cell? ⟨w.heap.size + 1 + 1, 1, none⟩ = some (.string (tx (f 1))) ∧ v.cell? ⟨w.heap.size + 1 + 1, 2, none⟩ = some (.string (tx (f 2))) ∧ v.cell? ⟨w.heap.size + 1 + 1, 3, none⟩ = some (.string (tx (f 3))) ∧ v.cell? ⟨w.heap.size + 1 + 1, 4, none⟩ = some (.string (tx (f 4))) ∧ v.cell? ⟨w.heap.size + 1 + 1, 5, none⟩ = some vv :=
  ⟨h.1.cell (by omega), h.1.cell (by omega), h.1.cell (by omega), h.1.cell (by omega), h.1.cell (by omega), h.1.cell (by omega)⟩
theorem clo_OptionRead (p0 p1 : Addr) (w : World) :
    CallsD Try.prog 13 #[.pointer (some p0), .pointer (some p1)] .returning w fun e u' w' => e = .returned (.tuple #[]) ∧ u' = .returning ∧ w' = w := by
  refine callsD_of_wpS Try.func13 rfl fun c₀ cs hu => ?_
  apply wpS_seq
  apply wpS_region
  simp [wpOpsS, go_sem, recoverD, hu, Try.ntmps13, Exit.thenS]
  refine wpS_cond (t := false) (by simp [Act.eval, Array.replicate]) ?_
  simp only [Bool.false_eq_true, if_false]
  refine wpS_of_wp (wp_skip ?_)
  cases c₀
  simp_all [bodyPostS, results, Try.results13]

set_option maxRecDepth 100000 in
theorem optRead_any (f : Nat → List UInt8) (l : List (List UInt8)) (hok : OptOk f l) (hno : ∀ i, i < 5 → NoB (f i)) (hnl : ∀ i, i < l.length → NoB (l.getD i [])) (hf0 : f 0 ≠ []) (ti : Nat) (hti : ti < 5) (hf1 : f 1 = typeT ti) (w : World) :
    Calls Try.prog 7 #[.string (tx (endT f l l.length))] w fun e w' => (∃ v', e = .returned (.tuple #[optV f v', .bool true]) ∧ TextsAt w' v' l) ∧ Below w.heap.size w w' := by
  have hl : l.length ≤ 1000 := by have := hok.few; omega
  have hmf := mkf Try.prog
  have hcb := fun w s => Go.Lib.run_convert_string_bytes (P := Try.prog) w 9 41 5 s Try.underlying9 Try.underlying41 Try.underlying5
  obtain ⟨hs, hr1, hr2, hr3, hb⟩ := laid3_facts w
  have hbb := below_bytes (laid3 w) (tx (endT f l l.length))
  have hs4 : (Lib.bytesWorld (laid3 w) 5 (tx (endT f l l.length))).heap.size = w.heap.size + 4 := by rw [Lib.bytesWorld_size]; omega
  have hun := unmOpt_any f l hok hno hnl hf0 ti hti hf1 (w.heap.size + 1 + 1) (.slice (some ⟨(laid3 w).heap.size, 0, none⟩) (endT f l l.length).length (grownCap (laid3 w) (endT f l l.length).length 0 5)) (Lib.bytesWorld (laid3 w) 5 (tx (endT f l l.length))) (rowIs_below hr3 hbb (by omega)) (bytes_set (tx (endT f l l.length)) (w.heap.size + 1 + 1) 1 _ (by omega) _)
  rw [show (laid3 w).heap.size = w.heap.size + 1 + 1 + 1 by omega] at hun
  have hpost : ∀ w1, OptB (w.heap.size + 1 + 1) (Lib.bytesWorld (laid3 w) 5 (tx (endT f l l.length))).heap.size (endP f l l.length) (Lib.bytesWorld (laid3 w) 5 (tx (endT f l l.length))) w1 → ∃ vv, ResO w f l vv w1 := fun w1 h => by
    obtain ⟨⟨vv, q1, q2⟩, q3⟩ := h
    rw [stV_end f l l.length (Nat.le_refl _), List.take_length] at q2
    have hold : ∀ k, k < w.heap.size + 2 → w1.heap[k]? = (laid3 w).heap[k]? := fun k hk => by
      rw [q3.block k (by omega) (by intro e; have : k = w.heap.size + 1 + 1 := (by simpa using e); omega)]
      exact hbb.block k (by omega)
    refine ⟨vv, q1.congr fun j hj => ?_, ⟨_, hr1.of_block (hold _ (by omega))⟩, ⟨false, hr2.of_block (hold _ (by omega))⟩, ?_, ?_, ?_⟩
    · by_cases e : j = 5
      · rw [if_pos e, if_pos e]
      · rw [if_neg e, if_neg e, stF_end f l l.length j (by omega)]
    · obtain ⟨hl, ⟨rfl, h0⟩ | ⟨g, cap, cur, rfl, _⟩⟩ := id q2
      · exact .inl ⟨none, 0, rfl, List.eq_nil_of_length_eq_zero h0, fun _ => rfl⟩
      · have hg := (q2.lt g rfl).2
        by_cases h0 : 0 < l.length
        · obtain ⟨g', cap', e, _, hg', _, hc⟩ := own_strs q2 h0
          cases e
          exact .inr ⟨g, 0, cap, rfl, hg, fun i hi => by rw [Nat.zero_add]; exact hc i hi⟩
        · exact .inr ⟨g, 0, cap, rfl, hg, fun i hi => by omega⟩
    · exact (hb.trans (hbb.mono (by omega))).grown q3 (by omega) (by intro r hr; cases hr; omega)
    · exact fun k hk => by have := (q2.lt k hk).1; omega
  replace hun := Lib.hid hun
  replace hpost := Lib.hid hpost
  clear hs4 hbb hr1 hr2 hr3 hb hs hf0 hok hno hnl hf1
  unfold laid3 zO at *
  go_enter_defers Try.func7, Try.ntmps7
  go_wp2_with (go_at_call 14; refine hun.out.mono ?_; rintro e w1 ⟨rfl, hB⟩; obtain ⟨vv, hR⟩ := hpost.out w1 hB; clear hB hpost hun)
  refine wp_region_noPanic ?_
  refine wp_region_held_drew (S := ResO w f l vv) (by kernel_rfl) (hR.below ⟨rfl, rfl, rfl, Nat.le_refl _, fun _ _ => rfl⟩) (fun hHeld => ?_)
  clear hR
  refine wpAnyH_take (i := 0) (v := ?_) rfl (by kernel_rfl) (by kernel_rfl) (by kernel_rfl) (fun _ _ _ h => h) (Or.inl ⟨by rfl, ?_⟩) (by assumption) ?_
  rotate_left
  · (intro w hSw; obtain ⟨c0, c1, c2, c3, c4, c5⟩ := hSw.cells; go_simp; try with_reducible rfl)
  try simp only [List.getElem_toArray, List.getElem_cons_succ, List.getElem_cons_zero, Act.put, List.setIfInBounds_toArray, List.set_cons_zero, List.set_cons_succ]
  refine wpAnyH_take (i := 1) (v := ?_) rfl (by kernel_rfl) (by kernel_rfl) (by kernel_rfl) (fun _ _ _ h => h) (Or.inl ⟨by rfl, ?_⟩) (by assumption) ?_
  rotate_left
  · (intro w hSw; obtain ⟨c0, c1, c2, c3, c4, c5⟩ := hSw.cells; go_simp; try with_reducible rfl)
  try simp only [List.getElem_toArray, List.getElem_cons_succ, List.getElem_cons_zero, Act.put, List.setIfInBounds_toArray, List.set_cons_zero, List.set_cons_succ]
  refine wpAnyH_take (i := 2) (v := ?_) rfl (by kernel_rfl) (by kernel_rfl) (by kernel_rfl) (fun _ _ _ h => h) (Or.inl ⟨by rfl, ?_⟩) (by assumption) ?_
  rotate_left
  · (intro w hSw; obtain ⟨c0, c1, c2, c3, c4, c5⟩ := hSw.cells; go_simp; try with_reducible rfl)
  try simp only [List.getElem_toArray, List.getElem_cons_succ, List.getElem_cons_zero, Act.put, List.setIfInBounds_toArray, List.set_cons_zero, List.set_cons_succ]
  refine wpAnyH_take (i := 3) (v := ?_) rfl (by kernel_rfl) (by kernel_rfl) (by kernel_rfl) (fun _ _ _ h => h) (Or.inl ⟨by rfl, ?_⟩) (by assumption) ?_
  rotate_left
  · (intro w hSw; obtain ⟨c0, c1, c2, c3, c4, c5⟩ := hSw.cells; go_simp; try with_reducible rfl)
  try simp only [List.getElem_toArray, List.getElem_cons_succ, List.getElem_cons_zero, Act.put, List.setIfInBounds_toArray, List.set_cons_zero, List.set_cons_succ]
  refine wpAnyH_take (i := 4) (v := ?_) rfl (by kernel_rfl) (by kernel_rfl) (by kernel_rfl) (fun _ _ _ h => h) (Or.inl ⟨by rfl, ?_⟩) (by assumption) ?_
  rotate_left
  · (intro w hSw; obtain ⟨c0, c1, c2, c3, c4, c5⟩ := hSw.cells; go_simp; try with_reducible rfl)
  try simp only [List.getElem_toArray, List.getElem_cons_succ, List.getElem_cons_zero, Act.put, List.setIfInBounds_toArray, List.set_cons_zero, List.set_cons_succ]
  refine wpAnyH_take (i := 5) (v := ?_) rfl (by kernel_rfl) (by kernel_rfl) (by kernel_rfl) (fun _ _ _ h => h) (Or.inl ⟨by rfl, ?_⟩) (by assumption) ?_
  rotate_left
  · (intro w hSw; obtain ⟨c0, c1, c2, c3, c4, c5⟩ := hSw.cells; go_simp; try with_reducible rfl)
  try simp only [List.getElem_toArray, List.getElem_cons_succ, List.getElem_cons_zero, Act.put, List.setIfInBounds_toArray, List.set_cons_zero, List.set_cons_succ]
  refine wpAnyH_take (i := 6) (v := ?_) rfl (by kernel_rfl) (by kernel_rfl) (by kernel_rfl) (fun _ _ _ h => h) (Or.inl ⟨by rfl, ?_⟩) (by assumption) ?_
  rotate_left
  · (intro w hSw; obtain ⟨c0, c1, c2, c3, c4, c5⟩ := hSw.cells; go_simp; try with_reducible rfl)
  try simp only [List.getElem_toArray, List.getElem_cons_succ, List.getElem_cons_zero, Act.put, List.setIfInBounds_toArray, List.set_cons_zero, List.set_cons_succ]
  refine wpAnyH_take (i := 7) (v := ?_) rfl (by kernel_rfl) (by kernel_rfl) (by kernel_rfl) (fun _ _ _ h => h) (Or.inl ⟨by rfl, ?_⟩) (by assumption) ?_
  rotate_left
  · (intro w hSw; obtain ⟨c0, c1, c2, c3, c4, c5⟩ := hSw.cells; go_simp; try with_reducible rfl)
  try simp only [List.getElem_toArray, List.getElem_cons_succ, List.getElem_cons_zero, Act.put, List.setIfInBounds_toArray, List.set_cons_zero, List.set_cons_succ]
  refine wpAnyH_take (i := 8) (v := ?_) rfl (by kernel_rfl) (by kernel_rfl) (by kernel_rfl) (fun _ _ _ h => h) (Or.inl ⟨by rfl, ?_⟩) (by assumption) ?_
  rotate_left
  · (intro w hSw; obtain ⟨c0, c1, c2, c3, c4, c5⟩ := hSw.cells; go_simp; try with_reducible rfl)
  try simp only [List.getElem_toArray, List.getElem_cons_succ, List.getElem_cons_zero, Act.put, List.setIfInBounds_toArray, List.set_cons_zero, List.set_cons_succ]
  refine wpAnyH_take (i := 9) (v := ?_) rfl (by kernel_rfl) (by kernel_rfl) (by kernel_rfl) (fun _ _ _ h => h) (Or.inl ⟨by rfl, ?_⟩) (by assumption) ?_
  rotate_left
  · (intro w hSw; obtain ⟨c0, c1, c2, c3, c4, c5⟩ := hSw.cells; go_simp; try with_reducible rfl)
  try simp only [List.getElem_toArray, List.getElem_cons_succ, List.getElem_cons_zero, Act.put, List.setIfInBounds_toArray, List.set_cons_zero, List.set_cons_succ]
  refine wpAnyH_take (i := 10) (v := ?_) rfl (by kernel_rfl) (by kernel_rfl) (by kernel_rfl) (fun _ _ _ h => h) (Or.inl ⟨by rfl, ?_⟩) (by assumption) ?_
  rotate_left
  · (intro w hSw; obtain ⟨c0, c1, c2, c3, c4, c5⟩ := hSw.cells; go_simp; try with_reducible rfl)
  try simp only [List.getElem_toArray, List.getElem_cons_succ, List.getElem_cons_zero, Act.put, List.setIfInBounds_toArray, List.set_cons_zero, List.set_cons_succ]
  refine wpAnyH_take (i := 11) (v := ?_) rfl (by kernel_rfl) (by kernel_rfl) (by kernel_rfl) (fun _ _ _ h => h) (Or.inl ⟨by rfl, ?_⟩) (by assumption) ?_
  rotate_left
  · (intro w hSw; obtain ⟨c0, c1, c2, c3, c4, c5⟩ := hSw.cells; go_simp; try with_reducible rfl)
  try simp only [List.getElem_toArray, List.getElem_cons_succ, List.getElem_cons_zero, Act.put, List.setIfInBounds_toArray, List.set_cons_zero, List.set_cons_succ]
  refine wpAnyH_take (i := 12) (v := ?_) rfl (by kernel_rfl) (by kernel_rfl) (by kernel_rfl) (fun _ _ _ h => h) (Or.inl ⟨by rfl, ?_⟩) (by assumption) ?_
  rotate_left
  · (intro w hSw; obtain ⟨c0, c1, c2, c3, c4, c5⟩ := hSw.cells; go_simp; try with_reducible rfl)
  try simp only [List.getElem_toArray, List.getElem_cons_succ, List.getElem_cons_zero, Act.put, List.setIfInBounds_toArray, List.set_cons_zero, List.set_cons_succ]
  refine wpAnyH_take (i := 13) (v := ?_) rfl (by kernel_rfl) (by kernel_rfl) (by kernel_rfl) (fun _ _ _ h => h) (Or.inl ⟨by rfl, ?_⟩) (by assumption) ?_
  rotate_left
  · (intro w hSw; obtain ⟨c0, c1, c2, c3, c4, c5⟩ := hSw.cells; go_simp; try with_reducible rfl)
  try simp only [List.getElem_toArray, List.getElem_cons_succ, List.getElem_cons_zero, Act.put, List.setIfInBounds_toArray, List.set_cons_zero, List.set_cons_succ]
  refine wpAnyH_take (i := 14) (v := ?_) rfl (by kernel_rfl) (by kernel_rfl) (by kernel_rfl) (fun _ _ _ h => h) (Or.inl ⟨by rfl, ?_⟩) (by assumption) ?_
  rotate_left
  · (intro w hSw; obtain ⟨c0, c1, c2, c3, c4, c5⟩ := hSw.cells; go_simp; try with_reducible rfl)
  try simp only [List.getElem_toArray, List.getElem_cons_succ, List.getElem_cons_zero, Act.put, List.setIfInBounds_toArray, List.set_cons_zero, List.set_cons_succ]
  refine wpAnyH_take (i := 15) (v := ?_) rfl (by kernel_rfl) (by kernel_rfl) (by kernel_rfl) (fun _ _ _ h => h) (Or.inl ⟨by rfl, ?_⟩) (by assumption) ?_
  rotate_left
  · (intro w hSw; obtain ⟨c0, c1, c2, c3, c4, c5⟩ := hSw.cells; go_simp; try with_reducible rfl)
  try simp only [List.getElem_toArray, List.getElem_cons_succ, List.getElem_cons_zero, Act.put, List.setIfInBounds_toArray, List.set_cons_zero, List.set_cons_succ]
  refine wpAnyH_take (i := 16) (v := ?_) rfl (by kernel_rfl) (by kernel_rfl) (by kernel_rfl) (fun _ _ _ h => h) (Or.inl ⟨by rfl, ?_⟩) (by assumption) ?_
  rotate_left
  · (intro w hSw; obtain ⟨c0, c1, c2, c3, c4, c5⟩ := hSw.cells; go_simp; try with_reducible rfl)
  try simp only [List.getElem_toArray, List.getElem_cons_succ, List.getElem_cons_zero, Act.put, List.setIfInBounds_toArray, List.set_cons_zero, List.set_cons_succ]
  refine wpAnyH_take (i := 17) (v := ?_) rfl (by kernel_rfl) (by kernel_rfl) (by kernel_rfl) (fun _ _ _ h => h) (Or.inl ⟨by rfl, ?_⟩) (by assumption) ?_
  rotate_left
  · (intro w hSw; obtain ⟨c0, c1, c2, c3, c4, c5⟩ := hSw.cells; go_simp; try with_reducible rfl)
  try simp only [List.getElem_toArray, List.getElem_cons_succ, List.getElem_cons_zero, Act.put, List.setIfInBounds_toArray, List.set_cons_zero, List.set_cons_succ]
  refine wpAnyH_take (i := 18) (v := ?_) rfl (by kernel_rfl) (by kernel_rfl) (by kernel_rfl) (fun _ _ _ h => h) (Or.inl ⟨by rfl, ?_⟩) (by assumption) ?_
  rotate_left
  · (intro w hSw; obtain ⟨c0, c1, c2, c3, c4, c5⟩ := hSw.cells; go_simp; try with_reducible rfl)
  try simp only [List.getElem_toArray, List.getElem_cons_succ, List.getElem_cons_zero, Act.put, List.setIfInBounds_toArray, List.set_cons_zero, List.set_cons_succ]
  refine wpAnyH_take (i := 19) (v := ?_) rfl (by kernel_rfl) (by kernel_rfl) (by kernel_rfl) (fun _ _ _ h => h) (Or.inl ⟨by rfl, ?_⟩) (by assumption) ?_
  rotate_left
  · (intro w hSw; obtain ⟨c0, c1, c2, c3, c4, c5⟩ := hSw.cells; go_simp; try with_reducible rfl)
  try simp only [List.getElem_toArray, List.getElem_cons_succ, List.getElem_cons_zero, Act.put, List.setIfInBounds_toArray, List.set_cons_zero, List.set_cons_succ]
  refine wpAnyH_take (i := 20) (v := ?_) rfl (by kernel_rfl) (by kernel_rfl) (by kernel_rfl) (fun _ _ _ h => h) (Or.inl ⟨by rfl, ?_⟩) (by assumption) ?_
  rotate_left
  · (intro w hSw; obtain ⟨c0, c1, c2, c3, c4, c5⟩ := hSw.cells; go_simp; try with_reducible rfl)
  try simp only [List.getElem_toArray, List.getElem_cons_succ, List.getElem_cons_zero, Act.put, List.setIfInBounds_toArray, List.set_cons_zero, List.set_cons_succ]
  refine wpAnyH_take (i := 21) (v := ?_) rfl (by kernel_rfl) (by kernel_rfl) (by kernel_rfl) (fun _ _ _ h => h) (Or.inl ⟨by rfl, ?_⟩) (by assumption) ?_
  rotate_left
  · (intro w hSw; obtain ⟨c0, c1, c2, c3, c4, c5⟩ := hSw.cells; go_simp; try with_reducible rfl)
  try simp only [List.getElem_toArray, List.getElem_cons_succ, List.getElem_cons_zero, Act.put, List.setIfInBounds_toArray, List.set_cons_zero, List.set_cons_succ]
  refine wpAnyH_take (i := 22) (v := ?_) rfl (by kernel_rfl) (by kernel_rfl) (by kernel_rfl) (fun _ _ _ h => h) (Or.inl ⟨by rfl, ?_⟩) (by assumption) ?_
  rotate_left
  · (intro w hSw; obtain ⟨c0, c1, c2, c3, c4, c5⟩ := hSw.cells; go_simp; try with_reducible rfl)
  try simp only [List.getElem_toArray, List.getElem_cons_succ, List.getElem_cons_zero, Act.put, List.setIfInBounds_toArray, List.set_cons_zero, List.set_cons_succ]
  refine wpAnyH_take (i := 23) (v := ?_) rfl (by kernel_rfl) (by kernel_rfl) (by kernel_rfl) (fun _ _ _ h => h) (Or.inl ⟨by rfl, ?_⟩) (by assumption) ?_
  rotate_left
  · (intro w hSw; obtain ⟨c0, c1, c2, c3, c4, c5⟩ := hSw.cells; go_simp; try with_reducible rfl)
  try simp only [List.getElem_toArray, List.getElem_cons_succ, List.getElem_cons_zero, Act.put, List.setIfInBounds_toArray, List.set_cons_zero, List.set_cons_succ]
  refine wpAnyH_ready (rs := [24]) (by kernel_rfl) (by simp) ?_
  refine AllReadyH.cons rfl (fun K hK => ?_) AllReadyH.nil
  rw [if_pos (by rfl)]
  refine wp_append_texts _ rfl vv l rfl hHeld.2.2.2.1 hl ?_
  intro v' w6 hT6 hb6 hown6 hsl6
  have hH6 := hHeld.below hb6
  have hgrow6 : ∀ k, v'.ownBlock = some k → w.heap.size + 3 ≤ k := fun k hk => by have := hown6 k hk; have := hHeld.1.lt; omega
  obtain ⟨av, kv, cv, rfl⟩ := hsl6
  refine hK.out _ _ hH6 (fun hHeld => ?_)
  clear hK K hH6 hown6 hb6
  try simp only [List.getElem_toArray, List.getElem_cons_succ, List.getElem_cons_zero, Act.put, List.setIfInBounds_toArray, List.set_cons_zero, List.set_cons_succ]
  (refine wpAnyH_take (i := 25) (v := ?_) rfl (by kernel_rfl) (by kernel_rfl) (by kernel_rfl) (fun _ _ _ h => h) (Or.inl ⟨by rfl, ?_⟩) (by assumption) ?_; rotate_left; · (intro w hSw; go_simp; try with_reducible rfl)); try simp only [List.getElem_toArray, List.getElem_cons_succ, List.getElem_cons_zero, Act.put, List.setIfInBounds_toArray, List.set_cons_zero, List.set_cons_succ]
  refine wpAnyH_ready (rs := [26]) (by kernel_rfl) (by simp) ?_
  refine AllReadyH.cons rfl (fun K hK => ?_) AllReadyH.nil
  rw [if_pos (by rfl)]
  refine wp_store_mid 24 _ _ rfl w.heap.size 0 #[.string (tx (f 0)), .string (tx (f 1)), .string (tx (f 2)), .string (tx (f 3)), .string (tx (f 4)), .slice av kv cv] rfl rfl hHeld.there (by kernel_rfl) (by simp [Value.oneCell']) ?_
  have hB := hHeld.set6 (.string (tx (f 0))) (.string (tx (f 1))) (.string (tx (f 2))) (.string (tx (f 3))) (.string (tx (f 4))) (.slice av kv cv)
  have hT7 := set6_texts hT6 hgrow6 (.string (tx (f 0))) (.string (tx (f 1))) (.string (tx (f 2))) (.string (tx (f 3))) (.string (tx (f 4))) (.slice av kv cv)
  generalize w6.setCells w.heap.size 0 _ = w7 at *
  refine hK.out _ _ hB.1 (fun hHeld => ?_)
  clear hK K
  try simp only [List.getElem_toArray, List.getElem_cons_succ, List.getElem_cons_zero, Act.put, List.setIfInBounds_toArray, List.set_cons_zero, List.set_cons_succ]
  refine wpAnyH_ready (rs := [27]) (by kernel_rfl) (by simp) ?_
  refine AllReadyH.cons rfl (fun K hK => ?_) AllReadyH.nil
  obtain ⟨zb, hzb⟩ := hHeld.2.2.1
  have c3 := hzb.cell (i := 0) (by omega)
  have f3 := hzb.frozen 0
  go_simp
  have hr7 := hB.2.setOther (a := ⟨w.heap.size + 1, 0, none⟩) (by simp) (.bool true)
  have hb7 := (hzb.set 0 (.bool true)).cell (i := 0) (by omega)
  have hT8 : TextsAt (w7.setCell ⟨w.heap.size + 1, 0, none⟩ (.bool true)) (.slice av kv cv) l := hT7.keep (by simp) (fun k hk => Below.heap_setCell _ _ _ _ (by have := hgrow6 k hk; simp; omega))
  refine hK.out _ _ (hHeld.setB true) (fun hHeld => ?_)
  clear hK K
  refine wpAnyH_done (by kernel_rfl) (NoPanic.normal ?_) _
  have hBl := hHeld.2.2.2.2.1
  clear hHeld hzb hB hT7 c3 f3 hT6 hgrow6
  have d0 := hr7.cell (i := 0) (by omega)
  have d1 := hr7.cell (i := 1) (by omega)
  have d2 := hr7.cell (i := 2) (by omega)
  have d3 := hr7.cell (i := 3) (by omega)
  have d4 := hr7.cell (i := 4) (by omega)
  have d5 := hr7.cell (i := 5) (by omega)
  rw [if_pos rfl] at hb7
  replace hBl := Lib.hid hBl
  replace hT8 := Lib.hid hT8
  generalize w7.setCell ⟨w.heap.size + 1, 0, none⟩ (.bool true) = wE at *
  go_wp2_with (fail)
  refine leaves_cons (f := 13) (args := #[.pointer (some ⟨w.heap.size, 0, none⟩), .pointer (some ⟨w.heap.size + 1, 0, none⟩)]) (by simp) (by simp [go_sem]) ?_; refine (clo_OptionRead _ _ _).mono ?_; rintro e u' w'' ⟨rfl, rfl, rfl⟩
  simp [Leaves, settle, results, Try.results7, asAddr, go_sem, d0, d1, d2, d3, d4, d5, hb7]
  exact ⟨⟨.slice av kv cv, rfl, hT8.out⟩, hBl.out⟩
end Go.Proofs.Ytkbbncobgmepbaa

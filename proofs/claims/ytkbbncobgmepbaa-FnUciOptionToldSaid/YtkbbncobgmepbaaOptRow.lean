/- For every option: the law FnUciOptionTold (an option that is told is read back as it is) returns true. -/
import Derived.Test.YtkbbncobgmepbaaOptLaw
import Derived.Test.YtkbbncobgmepbaaKeep
import Derived.ChangeMaps5
import Derived.Lib.SmallJoins
import Derived.SliceStrings
namespace Go.Proofs.Ytkbbncobgmepbaa
open Go.Joins Go.ChangeShapes Go.WideShapes Go.ChangeAt Go.RowKit Go.Deep
set_option maxHeartbeats 4000000
set_option linter.unusedVariables false
set_option linter.unusedSimpArgs false
section
variable {H : Type} {enc : TypeId × Value → H} {P : Program} {w : World} {base : Nat} {spare : Nat → Bool} {held : Bool}
/-- A struct of six fields of one cell each, by value (a lemma that the guide hands on for copying). -/
theorem open_agg6 {r : Reach} {b0 : Nat} {t : TypeId} {f0 f1 f2 f3 f4 f5 : Field} {v : Value} {d : DataW H} {p : List MemPlace} (hs : P.underlying t = some (.struct #[f0, f1, f2, f3, f4, f5])) (hone : oneCellFields P #[f0, f1, f2, f3, f4, f5] = true) (hC : P.cellsOf t = 6)
    (hv : Value.okWide P w r b0 t v) (h : DataW.Trod enc P w base spare held t v d p) :
    ∃ (v0 v1 v2 v3 v4 v5 : Value) (y0 y1 y2 y3 y4 y5 : DataW H × List MemPlace) (n : Nat), v = .agg #[v0, v1, v2, v3, v4, v5] ∧ d = .agg [y0.1, y1.1, y2.1, y3.1, y4.1, y5.1] ∧ p = y0.2 ++ (y1.2 ++ (y2.2 ++ (y3.2 ++ (y4.2 ++ y5.2)))) ∧
      DataW.trod enc P w base spare held n f0.type [v0] = some y0 ∧ DataW.trod enc P w base spare held n f1.type [v1] = some y1 ∧ DataW.trod enc P w base spare held n f2.type [v2] = some y2 ∧ DataW.trod enc P w base spare held n f3.type [v3] = some y3 ∧ DataW.trod enc P w base spare held n f4.type [v4] = some y4 ∧ DataW.trod enc P w base spare held n f5.type [v5] = some y5 := by
  obtain ⟨cs, rfl, hsz⟩ := okWide_struct hs hv
  obtain ⟨l⟩ := cs
  match l, hsz.trans hC with
  | [c0, c1, c2, c3, c4, c5], _ =>
    obtain ⟨fuel, hf⟩ := h
    obtain ⟨xs, n, _, hx, _, hlen, hg⟩ := DataW.trod_struct hs hf
    obtain ⟨o0, k0⟩ := hone_of hone 0 f0 rfl
    obtain ⟨o1, k1⟩ := hone_of hone 1 f1 rfl
    obtain ⟨o2, k2⟩ := hone_of hone 2 f2 rfl
    obtain ⟨o3, k3⟩ := hone_of hone 3 f3 rfl
    obtain ⟨o4, k4⟩ := hone_of hone 4 f4 rfl
    obtain ⟨o5, k5⟩ := hone_of hone 5 f5 rfl
    match xs, hlen with
    | [y0, y1, y2, y3, y4, y5], _ =>
      simp only [Prod.mk.injEq] at hx
      exact ⟨c0, c1, c2, c3, c4, c5, y0, y1, y2, y3, y4, y5, n, rfl, by simpa using hx.1, by simpa using hx.2, by simpa [Value.cells, o0, k0] using hg 0 f0 rfl, by simpa [Value.cells, o1, k1] using hg 1 f1 rfl, by simpa [Value.cells, o2, k2] using hg 2 f2 rfl, by simpa [Value.cells, o3, k3] using hg 3 f3 rfl, by simpa [Value.cells, o4, k4] using hg 4 f4 rfl, by simpa [Value.cells, o5, k5] using hg 5 f5 rfl⟩
end
theorem cellsStr : (Try.prog).cellsOf 9 = 1 := by kernel_rfl
theorem open_str {H : Type} {enc : TypeId × Value → H} {W : World} {base : Nat} {spare : Nat → Bool} {held : Bool} {n : Nat} {v : Value} {y : DataW H × List MemPlace} (h : DataW.trod enc Try.prog W base spare held n 9 [v] = some y) : ∃ x : List UInt8, v = .string (tx x) := by
  obtain ⟨s, hs, _⟩ := DataW.trod_string Try.underlying9 h
  refine ⟨s.data.toList, ?_⟩
  exact List.head_eq_of_cons_eq hs
theorem open_option {H : Type} {enc : TypeId × Value → H} {W : World} {b0 : Nat} {v : Value} {d : DataW H} {p : List MemPlace} (hval : Value.okWide Try.prog W .any b0 24 v) (h : DataW.Trod enc Try.prog W 0 (fun _ => true) true 24 v d p) :
    ∃ f vv l, v = optV f vv ∧ TextsAt W vv l := by
  obtain ⟨v0, v1, v2, v3, v4, v5, y0, y1, y2, y3, y4, y5, n, rfl, _, _, h0, h1, h2, h3, h4, h5⟩ := open_agg6 Try.underlying24 (by kernel_rfl) (by kernel_rfl) hval h
  obtain ⟨x0, rfl⟩ := open_str h0
  obtain ⟨x1, rfl⟩ := open_str h1
  obtain ⟨x2, rfl⟩ := open_str h2
  obtain ⟨x3, rfl⟩ := open_str h3
  obtain ⟨x4, rfl⟩ := open_str h4
  refine ⟨fun i => [x0, x1, x2, x3, x4].getD i [], v5, ?_⟩
  rcases open_strings Try.underlying22 Try.underlying9 cellsStr h5 with ⟨hcs, _⟩ | ⟨a, len, cap, ss, hcs, _, hl, hm, hsl, _, hc, _⟩
  · obtain rfl : v5 = .slice none 0 0 := by simpa using hcs
    exact ⟨[], rfl, .inl ⟨none, 0, rfl, rfl, fun _ => rfl⟩⟩
  · obtain rfl : v5 = .slice (some a) len cap := by simpa using hcs
    rw [if_pos rfl] at hsl
    refine ⟨(ss.take len).map fun s => s.data.toList, rfl, ?_⟩
    have hlen : ((ss.take len).map fun s => s.data.toList).length = len := by simp; omega
    by_cases h0 : len = 0
    · subst h0
      exact .inl ⟨some a, cap, rfl, by simp, fun h => by cases h⟩
    · have c0 := hc 0 (by omega)
      obtain ⟨g, o, sp⟩ := a
      obtain rfl : sp = none := by simpa [Addr.add] using World.cell?_spot c0
      refine .inr ⟨g, o, cap, by rw [hlen], World.block_lt_of_cell? W ⟨g, o, none⟩ (by simpa [Addr.add] using c0), fun i hi => ?_⟩
      rw [hlen] at hi
      have ci := hc i (by omega)
      rw [show (⟨g, o, none⟩ : Addr).add i = ⟨g, o + i, none⟩ from Addr.add_mid g o i] at ci
      rw [ci]
      have : ((ss.take len).map fun s => s.data.toList).getD i [] = (ss.getD i ByteArray.empty).data.toList := by
        rw [List.getD_eq_getElem?_getD, List.getD_eq_getElem?_getD, List.getElem?_map, List.getElem?_take_of_lt hi, List.getElem?_eq_getElem (by omega)]
        rfl
      rw [this]; rfl
theorem walk (f : Nat → List UInt8) (v : Value) (l : List (List UInt8)) (W : World) (h : TextsAt W v l) :
    Calls Try.prog 3 #[optV f v] W fun e w' => e = .returned (.bool true) ∧ Below W.heap.size W w' := by
  have hone : v.cells = #[v] := by
    rcases h with ⟨a0, c0, rfl, _⟩ | ⟨g, o, cap, rfl, _⟩ <;> rfl
  by_cases hl : l.length ≤ 2147483647
  · cases hfit : fitsOpt f l
    · exact law_unfit f v l W hone (fun w1 hb => by have := fits11_any f v l w1 (h.below hb) hl; rwa [hfit] at this)
    · exact law_main f v l W h hfit hl
  · exact law_unfit f v l W hone (fun w1 hb => fits11_long f v l w1 (h.below hb) (by omega))

theorem own : ownKnob Try.prog.godebug = none := by kernel_rfl
theorem laidOut : laidOutB Try.prog = true := by kernel_rfl
set_option maxRecDepth 100000 in
theorem lifted (os : Os) (started : os.Started) (H : Type) (enc : TypeId × Value → H) :
    ReturnsInHanded {} Try.checked os 3 .any (Rows.fnUciOptionToldSpec.pre6 enc Try.prog Try.f3 Rows.fnUciOptionToldRow.domain false) (Rows.fnUciOptionToldSpec.post enc Try.prog Try.f3 false true false false) := by
  refine returnsInHanded_of_change (C := Try.checked) own started (by kernel_rfl) Try.func3
    (ChangeSpec.witness6 (enc := enc) (C := Try.checked) false ⟨#[], #[.agg #[.string ⟨#[]⟩, .string ⟨#[]⟩, .string ⟨#[]⟩, .string ⟨#[]⟩, .string ⟨#[]⟩, .slice none 0 0]], []⟩ 8 (by kernel_rfl) (by kernel_rfl) (by kernel_rfl) (by kernel_rfl)) ?_
  intro W base args ds gs before hval0 hW hcnd hsz
  have hval : ∀ (j : Nat) t v, Try.f3.params[j]? = some t → args[j]? = some v → Value.okWide Try.prog W .any base t v := hval0
  have hW' := hW
  obtain ⟨p, q, hA0, hV, rfl, hfz, hnd⟩ := hW
  have hA : DataW.TrodAll enc Try.prog W 0 (fun _ => true) true Try.f3.params.toList args.toList ds p := hA0
  rw [Try.params3] at hA hval
  obtain ⟨v0, vs0, d0, ds0, p0, q0, hargs0, rfl, rfl, h0, r0⟩ := trodAll_cons hA
  obtain ⟨hnil, rfl, rfl⟩ := trodAll_nil r0
  obtain rfl : args = #[v0] := by cases args; simp_all
  obtain ⟨rfl, rfl⟩ := trodVars_none hV
  have hlt := hW'.lt
  have k0 := h0
  obtain ⟨a0, b0, c0, rfl, w0⟩ := open_option (hval 0 24 v0 rfl rfl) h0
  clear hA0 hval0
  refine (walk a0 b0 c0 W w0).mono fun e W' ⟨he, hg⟩ => ?_
  subst he
  exact ⟨_, rfl, post_of_below (pa := p0 ++ ([])) (pv := []) hW' (fun _ _ _ => (trodAll_cons_mk (shut_bool Try.underlying4 _) trodAll_mk0)) (fun sp hsp => (trodAll_cons_mk (trod_keep laidOut (by kernel_rfl) (of_decide_eq_true (by kernel_rfl)) k0 hg (fun x hx => hlt x (by simp [hx])) (fun x hx => hsp x (by simp [hx]))) trodAll_mk0)) (fun _ _ => rfl) rfl hg (ok_one (by kernel_rfl) rfl (okWide_bool_mk Try.underlying4 _))⟩
theorem over : Rows.fnUciOptionToldRow.holds Try.pinned (OpenSpec.ofChange Rows.fnUciOptionToldSpec) :=
  OpenClaim.holds_of_wide 3 Try.f3 rfl rfl rfl rfl rfl rfl rfl ⟨rfl, rfl, rfl, rfl, rfl⟩ rfl rfl rfl rfl rfl (by kernel_rfl) Try.func3 (by kernel_rfl)
    (of_decide_eq_true (by kernel_rfl)) (by unfold Func.isWrapper; first | (rw [if_pos (by decide +kernel)]; kernel_rfl) | (rw [if_neg (by decide +kernel)]; exact ⟨rfl, rfl⟩))
    (fun os started H enc _ => lifted os started H enc)
/-- The statement. -/
theorem proved : Rows.FnUciOptionToldSaid := over
#print axioms proved
end Go.Proofs.Ytkbbncobgmepbaa

/- The lexer: the text of a comment. -/
import Derived.Test.YtlcdhahnngfjhaaDoorLxD
import Derived.Test.YtlcdhahnngfjhaaDoorLayX
import Derived.Shelf.Strings.TrimSpace
import Derived.Shelf.Unicode.Props
import Derived.Lib.AtoiErrMem
namespace Go.Proofs.YtlcdhahnngfjhaaDoor
open Go.Proofs Go.Shelf Go.Lib Go.ChangeShapes Go.WideShapes Go.ChangeAt Go.RowKit Go.PlainAid
set_option maxHeartbeats 2000000
set_option linter.unusedVariables false
set_option linter.unusedSimpArgs false
attribute [local go_sem] tx_list tx_size bt_tx

/-- The tables that the lexer reads. -/
structure LTabs (w : World) : Prop where
  sp : Lib.TabIs Tryd.prog w "strings.asciiSpace" .u8 Lib.asciiSpaceTab
  pr : Lib.TabIs Tryd.prog w "unicode.properties" .u8 Lib.propertiesTab
theorem var_keep {w w' : World} {name : String} {g : Nat} {cs : Array Value} (hg : Tryd.prog.globalNamed name = some g) (h : w.var? Tryd.prog name = some cs) (hk : g < w.heap.size → w'.heap[g]? = w.heap[g]?) : w'.var? Tryd.prog name = some cs := by
  unfold World.var? at h ⊢
  rw [hg] at h ⊢
  simp only [Option.bind_some] at h ⊢
  rcases Nat.lt_or_ge g w.heap.size with hl | hl
  · rw [hk hl]; exact h
  · rw [Array.getElem?_eq_none hl] at h; cases h
theorem LTabs.below {w w' : World} (h : LTabs w) {B : Nat} (hb : Below B w w') (hB : w.heap.size ≤ B) : LTabs w' :=
  ⟨var_keep (g := 2) (by kernel_rfl) h.sp (fun hl => hb.block _ (by omega)), var_keep (g := 0) (by kernel_rfl) h.pr (fun hl => hb.block _ (by omega))⟩
theorem var_size {w : World} {name : String} {g : Nat} {cs : Array Value} (hg : Tryd.prog.globalNamed name = some g) (h : w.var? Tryd.prog name = some cs) {b n : Nat} {t : TypeId} {F : Nat → Value} (hr : w.rowIs b t n F) (hn : cs.size ≠ n) : g ≠ b := by
  intro e; subst e
  unfold World.var? at h
  rw [hg] at h
  simp only [Option.bind_some] at h
  rw [rowIs_block hr] at h
  simp only [Option.some.injEq] at h
  apply hn
  rw [← h, rowArr_size]
theorem LTabs.lx {gl : Nat} {L : List UInt8} {p : Nat} {f : Fl} {w w' : World} (h : LTabs w) (hl : LexAt gl L p f w) (hx : Lx gl w w') : LTabs w' := by
  have n1 := var_size (g := 2) (by kernel_rfl) h.sp hl (by simp [Lib.asciiSpaceTab_length])
  have n2 := var_size (g := 0) (by kernel_rfl) h.pr hl (by simp [Lib.propertiesTab_length])
  exact ⟨var_keep (g := 2) (by kernel_rfl) h.sp (fun hlt => hx.block _ hlt n1), var_keep (g := 0) (by kernel_rfl) h.pr (fun hlt => hx.block _ hlt n2)⟩
def asciiL (L : List UInt8) : Prop := ∀ i, chAt L i < 128
theorem mid_ascii {L : List UInt8} (h : asciiL L) (a b : Nat) : ∀ (j : Nat) x, (tx (mid L a b)).data.toList[j]? = some x → x.toNat < 128 := by
  intro j x hx
  have e : (tx (mid L a b)).data.toList = mid L a b := rfl
  rw [e] at hx
  unfold mid at hx
  rw [List.getElem?_drop, List.getElem?_take] at hx
  split at hx
  · have := h (a + j)
    unfold chAt at this
    rw [List.getD_eq_getElem?_getD, hx] at this
    exact this
  · cases hx
theorem trim_any (L : List UInt8) (hL : L.length ≤ 1000000) (hA : asciiL L) (a b : Nat) (w : World) (hT : LTabs w) :
    Calls Tryd.prog 41 #[.string (tx (mid L a b))] w fun e w' => e = .returned (.string (tx (Lib.trimSpace (mid L a b)))) ∧ Below w.heap.size w w' :=
  (Any.strings_TrimSpace lays_Lays_n163 lays_Space_Extra (tx (mid L a b)) w (by rw [tx_size]; unfold mid; rw [List.length_drop, List.length_take]; omega) (mid_ascii hA a b) hT.sp).mono (by
    rintro e w' ⟨rfl, rfl⟩
    exact ⟨rfl, Lib.bytesWorld_below _ _ _⟩)
set_option maxRecDepth 100000 in
theorem readText_any (gl : Nat) (L : List UInt8) (p E : Nat) (f : Fl) (hL : L.length ≤ 1000000) (hA : asciiL L) (hp : p < E) (hE : E < L.length) (hi : ∀ j, p ≤ j → j < E → chAt L j ≠ 125 ∧ chAt L j ≠ 0 ∧ chAt L j ≠ 91) (he : chAt L E = 125) (w : World) (hT : LTabs w) (h : LexAt gl L p f w) :
    Calls Tryd.prog 24 #[.pointer (some ⟨gl, 0, none⟩)] w fun e w' => TokP gl L ⟨false, Lib.trimSpace (mid L p E), 13⟩ E f w e w' := by
  obtain ⟨k1, hx1, hr1⟩ := tok_laid h
  have hgl : w.heap.size ≠ gl := by have := World.rowIs.lt h; omega
  have c1 := k1.cells.2.1
  have hT1 : LTabs (w.alloc (.cells #[.nilIface, .string ⟨#[]⟩, .int .i64 0] 47)) := hT.lx h hx1
  go_enter Tryd.func24, Tryd.ntmps24
  go_upto_region 1 with (fail)
  generalize (w.alloc (.cells #[.nilIface, .string ⟨#[]⟩, .int .i64 0] 47)) = w1 at *
  replace k1 := Lib.hid k1
  replace hr1 := Lib.hid hr1
  replace hi := Lib.hid hi
  replace he := Lib.hid he
  go_wp2_with (fail)
  go_loopw [] (fun wr => ∃ q : Nat, p ≤ q ∧ q ≤ E ∧ LexAt gl L q f wr ∧ Lx gl w1 wr) (fun wr => E + 1 - posOf gl wr)
  case atStart => exact ⟨p, Nat.le_refl _, by omega, k1.out, Lx.refl _ _⟩
  case round =>
    obtain ⟨q, hq1, hq2, hk, hx⟩ := hrel
    have hpos := hk.pos
    have b3 := hk.cells.2.2.2.1
    rcases Nat.lt_or_ge q E with hlt | hge
    · obtain ⟨n1, n2, n3⟩ := hi.out q hq1 hlt
      have m1 : (((chAt L q : Nat) : Int) != 125) = true := by rw [bne_iff_ne]; omega
      have m2 : (((chAt L q : Nat) : Int) != 0) = true := by rw [bne_iff_ne]; omega
      have m3 : (((chAt L q : Nat) : Int) == 91) = false := by rw [beq_eq_false_iff_ne]; omega
      have hrd := Lib.hid (readChar_any gl L q f hL (by omega) wr hk)
      generalize chAt L q = C at *
      replace hx := Lib.hid hx
      go_wp2_with (go_at_call 20; refine hrd.out.mono ?_; rintro e w2 ⟨rfl, k2, hx2⟩; have hpos2 := k2.pos; replace k2 := Lib.hid k2; replace hx2 := Lib.hid (hx.out.trans hx2))
      exact ⟨⟨q + 1, by omega, by omega, k2.out, hx2.out⟩, by omega⟩
    · obtain rfl : q = E := by omega
      have m1 : (((chAt L q : Nat) : Int) != 125) = false := by rw [he.out]; rfl
      have m2 : (((chAt L q : Nat) : Int) == 0) = false := by rw [he.out]; rfl
      have b0 := hk.cells.1
      have b1 := hk.cells.2.1
      have mne : ((p : Int) != (q : Int)) = true := by rw [bne_iff_ne]; omega
      have hle : (p : Int) ≤ (q : Int) := by omega
      have hsl : Hid (∀ wx : World, (Instr.slice 9 (.string (tx L)) (some (.int .i64 (p : Int))) (some (.int .i64 (q : Int))) none).run Tryd.prog wx = .ok (.string (tx (mid L p q))) wx) := Lib.hid (fun wx => slice_mid L p q (by omega) (by omega) wx)
      have hTr := hT1.lx k1.out hx
      have hrE := Lib.hid (Lx.row hx hr1.out hgl)
      have hxE := Lib.hid (hx1.trans hx)
      have hkE := Lib.hid hk
      have htr := Lib.hid (trim_any L hL hA p q wr.drew (hTr.below (B := wr.heap.size) ⟨rfl, rfl, rfl, Nat.le_refl _, fun _ _ => rfl⟩ (Nat.le_refl _)))
      clear hx hk hT1 hT
      generalize chAt L q = C at *
      go_upto_region 17 with (fail)
      refine wp_region_held_drew (S := fun v => v.cell? ⟨gl, 0, none⟩ = some (.string (tx L)) ∧ v.cell? ⟨gl, 1, none⟩ = some (.int .i64 (q : Int))) (by kernel_rfl) ⟨b0, b1⟩ (fun hHeld => ?_)
      (refine wpAnyH_take (i := 0) (v := ?_) rfl (by kernel_rfl) (by kernel_rfl) (by kernel_rfl) (fun _ _ _ h => h) (Or.inl ⟨by rfl, ?_⟩) (by assumption) ?_; rotate_left; · (intro w hSw; go_simp; try with_reducible rfl)); try simp only [List.getElem_toArray, List.getElem_cons_succ, List.getElem_cons_zero, Act.put, List.setIfInBounds_toArray, List.set_cons_zero, List.set_cons_succ]
      (refine wpAnyH_take (i := 1) (v := ?_) rfl (by kernel_rfl) (by kernel_rfl) (by kernel_rfl) (fun _ _ _ h => h) (Or.inl ⟨by rfl, ?_⟩) (by assumption) ?_; rotate_left; · (intro w hSw; go_simp; try with_reducible rfl)); try simp only [List.getElem_toArray, List.getElem_cons_succ, List.getElem_cons_zero, Act.put, List.setIfInBounds_toArray, List.set_cons_zero, List.set_cons_succ]
      (refine wpAnyH_take (i := 2) (v := ?_) rfl (by kernel_rfl) (by kernel_rfl) (by kernel_rfl) (fun _ _ _ h => h) (Or.inl ⟨by rfl, ?_⟩) (by assumption) ?_; rotate_left; · (intro w hSw; go_simp; try with_reducible rfl)); try simp only [List.getElem_toArray, List.getElem_cons_succ, List.getElem_cons_zero, Act.put, List.setIfInBounds_toArray, List.set_cons_zero, List.set_cons_succ]
      (refine wpAnyH_take (i := 3) (v := ?_) rfl (by kernel_rfl) (by kernel_rfl) (by kernel_rfl) (fun _ _ _ h => h) (Or.inl ⟨by rfl, ?_⟩) (by assumption) ?_; rotate_left; · (intro w hSw; go_simp; try with_reducible rfl)); try simp only [List.getElem_toArray, List.getElem_cons_succ, List.getElem_cons_zero, Act.put, List.setIfInBounds_toArray, List.set_cons_zero, List.set_cons_succ]
      (refine wpAnyH_take (i := 4) (v := ?_) rfl (by kernel_rfl) (by kernel_rfl) (by kernel_rfl) (fun _ _ _ h => h) (Or.inl ⟨by rfl, ?_⟩) (by assumption) ?_; rotate_left; · (intro w hSw; go_simp; try with_reducible rfl)); try simp only [List.getElem_toArray, List.getElem_cons_succ, List.getElem_cons_zero, Act.put, List.setIfInBounds_toArray, List.set_cons_zero, List.set_cons_succ]
      (refine wpAnyH_take (i := 5) (v := ?_) rfl (by kernel_rfl) (by kernel_rfl) (by kernel_rfl) (fun _ _ _ h => h) (Or.inl ⟨by rfl, ?_⟩) (by assumption) ?_; rotate_left; · (intro w hSw; go_simp; try with_reducible rfl)); try simp only [List.getElem_toArray, List.getElem_cons_succ, List.getElem_cons_zero, Act.put, List.setIfInBounds_toArray, List.set_cons_zero, List.set_cons_succ]
      (refine wpAnyH_take (i := 6) (v := ?_) rfl (by kernel_rfl) (by kernel_rfl) (by kernel_rfl) (fun _ _ _ h => h) (Or.inl ⟨by rfl, ?_⟩) (by assumption) ?_; rotate_left; · (intro w hSw; go_simp; try with_reducible rfl)); try simp only [List.getElem_toArray, List.getElem_cons_succ, List.getElem_cons_zero, Act.put, List.setIfInBounds_toArray, List.set_cons_zero, List.set_cons_succ]
      (refine wpAnyH_take (i := 7) (v := ?_) rfl (by kernel_rfl) (by kernel_rfl) (by kernel_rfl) (fun _ _ _ h => h) (Or.inl ⟨by rfl, ?_⟩) (by assumption) ?_; rotate_left; · (intro w hSw; go_simp; try with_reducible rfl)); try simp only [List.getElem_toArray, List.getElem_cons_succ, List.getElem_cons_zero, Act.put, List.setIfInBounds_toArray, List.set_cons_zero, List.set_cons_succ]
      (refine wpAnyH_take (i := 8) (v := ?_) rfl (by kernel_rfl) (by kernel_rfl) (by kernel_rfl) (fun _ _ _ h => h) (Or.inl ⟨by rfl, ?_⟩) (by assumption) ?_; rotate_left; · (intro w hSw; go_simp; try with_reducible rfl)); try simp only [List.getElem_toArray, List.getElem_cons_succ, List.getElem_cons_zero, Act.put, List.setIfInBounds_toArray, List.set_cons_zero, List.set_cons_succ]
      have hsl2 := hsl.out
      (refine wpAnyH_take (i := 9) (v := ?_) rfl (by kernel_rfl) (by kernel_rfl) (by kernel_rfl) (fun _ _ _ h => h) (Or.inl ⟨by rfl, ?_⟩) (by assumption) ?_; rotate_left; · (intro w hSw; go_simp; try with_reducible rfl)); try simp only [List.getElem_toArray, List.getElem_cons_succ, List.getElem_cons_zero, Act.put, List.setIfInBounds_toArray, List.set_cons_zero, List.set_cons_succ]
      clear hsl2
      refine wpAnyH_ready (rs := [10]) (by kernel_rfl) (by simp) ?_; refine AllReadyH.cons rfl (fun K hK => ?_) AllReadyH.nil; go_simp
      refine htr.out.mono ?_
      rintro e w5 ⟨rfl, hb5⟩
      have kz : LexAt gl L q f w5 := LexAt.of_below (World.rowIs.of_block (w' := wr.drew) hkE.out rfl) hb5
      have lz : Lx gl wr w5 := (Lx.drew wr).trans (Lx.of_below hb5)
      have rz := Lib.hid (Lx.row lz hrE.out hgl)
      refine hK.out _ _ (⟨kz.cells.1, kz.cells.2.1⟩) (fun hHeld => ?_); clear hK K; try simp only [List.getElem_toArray, List.getElem_cons_succ, List.getElem_cons_zero, Act.put, List.setIfInBounds_toArray, List.set_cons_zero, List.set_cons_succ]
      (refine wpAnyH_take (i := 11) (v := ?_) rfl (by kernel_rfl) (by kernel_rfl) (by kernel_rfl) (fun _ _ _ h => h) (Or.inl ⟨by rfl, ?_⟩) (by assumption) ?_; rotate_left; · (intro w hSw; go_simp; try with_reducible rfl)); try simp only [List.getElem_toArray, List.getElem_cons_succ, List.getElem_cons_zero, Act.put, List.setIfInBounds_toArray, List.set_cons_zero, List.set_cons_succ]
      refine wpAnyH_ready (rs := [12]) (by kernel_rfl) (by simp) ?_
      refine AllReadyH.cons rfl (fun K hK => ?_) AllReadyH.nil
      rw [if_pos (by rfl)]
      refine wp_store_mid 47 _ _ rfl w.heap.size 0 #[.nilIface, .string (tx (Lib.trimSpace (mid L p q))), .int .i64 13] rfl rfl (rowIs_there rz.out) (by kernel_rfl) (by simp [Value.oneCell']) ?_
      have hz := tok_fin (b := w.heap.size) kz (hxE.out.trans lz) (Nat.le_refl _) hgl [.nilIface, .string (tx (Lib.trimSpace (mid L p q))), .int .i64 13]
      refine hK.out _ _ ⟨hz.1.cells.1, hz.1.cells.2.1⟩ (fun hHeld2 => ?_)
      clear hK K hHeld2
      try simp only [List.getElem_toArray, List.getElem_cons_succ, List.getElem_cons_zero, Act.put, List.setIfInBounds_toArray, List.set_cons_zero, List.set_cons_succ]
      refine wpAnyH_done (by kernel_rfl) ?_ _
      go_wp2_with (fail)
      exact bodyPost_ret (tok_ret rfl _ rz.out rfl _ _ _) rfl (tok_none kz (hxE.out.trans lz) (Nat.le_refl _) hgl)
end Go.Proofs.YtlcdhahnngfjhaaDoor

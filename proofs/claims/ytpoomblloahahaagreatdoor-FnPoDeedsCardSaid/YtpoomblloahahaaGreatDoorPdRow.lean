/- For every list of bytes and every list of deeds: the law FnPoDeeds (deeds done to a book) returns true. The tied card: io.EOF holds what the library's text lays in it. -/
import Derived.Test.YtpoomblloahahaaGreatDoorPdG
import Derived.Test.YtpoomblloahahaaGreatDoorKeep
import Derived.Test.YtpoomblloahahaaGreatDoorTie
import Derived.Test.YtpoomblloahahaaGreatDoorCards
import Derived.SevenTiedAt
import Derived.LaidMore
import Derived.Stop.Joined
import Derived.Stop.LaidErr
import Derived.ChangeMaps5
namespace Go.Proofs.YtpoomblloahahaaGreatDoor.PoDeeds
open Go.ChangeShapes Go.WideShapes Go.ChangeAt Go.RowKit Go.PlainAid
set_option maxHeartbeats 4000000
set_option linter.unusedVariables false
set_option linter.unusedSimpArgs false

theorem star : "*" ++ "errors.errorString" = "*errors.errorString" := by decide
theorem rowErr (u : TypeId) (h : Tryz.prog.typeName? 3 u = some "*errors.errorString") : u = 117 :=
  typeName_ptr_named (nm := "errors.errorString") (by rw [star]; kernel_rfl) (by kernel_rfl) (by decide) u (by rw [star]; exact h)
theorem tabB_of_laid {W : World} (h : laidMet Tryz.prog Rows.fnPoDeedsRow.laid W) : TabB W := by
  have hg : Tryz.prog.globalNamed "io.EOF" = some 0 := by kernel_rfl
  obtain ⟨a, s, hv, _, _, _⟩ := laid_sentinel (n := "io.EOF") h hg (show (Tryz.prog.globals[0]?).map (·.type) = some 44 by kernel_rfl) Tryz.underlying44 rowErr Tryz.underlying117 Tryz.underlying119 rfl rfl Tryz.underlying9 (by kernel_rfl) (by kernel_rfl)
  have hc : W.cell? ⟨0, 0, none⟩ = some (.iface 117 (.pointer (some a))) := by simpa using World.var?_cell hg hv 0
  exact ⟨block_lt_of_cell hc, a, hc⟩
set_option maxRecDepth 100000 in
theorem open_data {H : Type} {enc : TypeId × Value → H} {W : World} {base : Nat} {v : Value} {d : DataW H} {p : List MemPlace} (hval : Value.okWide Tryz.prog W .any base 22 v) (h : DataW.Trod enc Tryz.prog W 0 (fun _ => true) true 22 v d p) :
    ∃ L, DataAt W v L := by
  obtain ⟨a, n, c, rfl⟩ := okWide_slice Tryz.underlying22 hval
  obtain ⟨fuel, hf⟩ := h
  rcases open_ints Tryz.underlying22 Tryz.underlying5 cellsU8 hf with ⟨hcs, _⟩ | ⟨a', n', c', zs, hcs, _, hl, hm, hz, _, hc, hwf⟩
  · simp [Value.cells] at hcs
    obtain ⟨rfl, rfl, rfl⟩ := hcs
    exact ⟨[], none, 0, rfl, Nat.le_refl _, fun h => absurd h (by simp)⟩
  · simp [Value.cells] at hcs
    obtain ⟨rfl, rfl, rfl⟩ := hcs
    rw [if_pos rfl] at hz
    have hlen : ((zs.take n).map fun z => UInt8.ofNat z.toNat).length = n := by simp; omega
    refine ⟨(zs.take n).map fun z => UInt8.ofNat z.toNat, some a', c, by rw [hlen], by rw [hlen]; exact hl, fun h0 => ?_⟩
    rw [hlen] at h0
    have c0 := hc 0 (by omega)
    obtain ⟨g, o, sp⟩ := a'
    obtain rfl : sp = none := by simpa [Addr.add] using World.cell?_spot c0
    refine ⟨g, o, rfl, World.block_lt_of_cell? W ⟨g, o, none⟩ (by simpa [Addr.add] using c0), fun i hi => ?_⟩
    rw [hlen] at hi
    have ci := hc i (by omega)
    rw [show (⟨g, o, none⟩ : Addr).add i = ⟨g, o + i, none⟩ from Addr.add_mid g o i] at ci
    have hin : zs.getD i 0 ∈ zs := by rw [List.getD_eq_getElem?_getD, List.getElem?_eq_getElem (by omega)]; exact List.getElem_mem _
    have hb := bounds_u8 (hwf _ hin)
    have e : byI ((zs.take n).map fun z => UInt8.ofNat z.toNat) i = zs.getD i 0 := by
      unfold byI
      rw [List.getD_eq_getElem?_getD, List.getElem?_map, List.getElem?_take_of_lt hi, List.getD_eq_getElem?_getD] at *
      rw [List.getElem?_eq_getElem (by omega)] at *
      simp only [Option.map_some, Option.getD_some] at *
      rw [UInt8.toNat_ofNat']
      omega
    rw [ci, e]
set_option maxRecDepth 100000 in
theorem open_deed {H : Type} {enc : TypeId × Value → H} {W : World} {m : Nat} {cs : List Value} {x : DataW H × List MemPlace} (h : DataW.trod enc Tryz.prog W 0 (fun _ => true) true m 35 cs = some x) :
    ∃ d : Dd, ∀ j, j < 6 → cs[j]? = some (ddF d j) := by
  obtain ⟨xs, n, _, _, hl, hxl, hf⟩ := DataW.trod_struct Tryz.underlying35 h
  have hc6 : Tryz.prog.cellsOf 35 = 6 := by kernel_rfl
  have hi1 : Tryz.prog.cellsOf 3 = 1 := by kernel_rfl
  have hi2 : Tryz.prog.cellsOf 26 = 1 := by kernel_rfl
  have hi3 : Tryz.prog.cellsOf 33 = 3 := by kernel_rfl
  have hi4 : Tryz.prog.cellsOf 27 = 1 := by kernel_rfl
  rw [hc6] at hl
  match cs, hl, xs, hxl with
  | [c0, c1, c2, c3, c4, c5], _, [y0, y1, y2, y3], _ =>
    have g0 := hf 0 _ rfl
    have g1 := hf 1 _ rfl
    have g2 := hf 2 _ rfl
    have g3 := hf 3 _ rfl
    simp only [hi1, hi2, hi3, hi4, List.drop_succ_cons, List.drop_zero, List.take_succ_cons, List.take_zero, List.getElem?_cons_zero, List.getElem?_cons_succ] at g0 g1 g2 g3
    obtain ⟨kd, e0, _⟩ := DataW.trod_int Tryz.underlying3 g0
    obtain ⟨ky, e1, _⟩ := DataW.trod_int Tryz.underlying26 g1
    obtain ⟨wt, e5, _⟩ := DataW.trod_int Tryz.underlying27 g3
    obtain ⟨zs, n2, _, _, hl2, hzl, hg⟩ := DataW.trod_struct Tryz.underlying33 g2
    match zs, hzl with
    | [z0, z1, z2], _ =>
      have q0 := hg 0 _ rfl
      have q1 := hg 1 _ rfl
      have q2 := hg 2 _ rfl
      simp only [hi1, List.drop_succ_cons, List.drop_zero, List.take_succ_cons, List.take_zero, List.getElem?_cons_zero, List.getElem?_cons_succ] at q0 q1 q2
      obtain ⟨fr, e2, _⟩ := DataW.trod_int Tryz.underlying3 q0
      obtain ⟨tt, e3, _⟩ := DataW.trod_int Tryz.underlying3 q1
      obtain ⟨pr, e4, _⟩ := DataW.trod_int Tryz.underlying3 q2
      injection e0 with e0 _
      injection e1 with e1 _
      injection e2 with e2 _
      injection e3 with e3 _
      injection e4 with e4 _
      injection e5 with e5 _
      subst e0 e1 e2 e3 e4 e5
      refine ⟨(kd, ky, fr, tt, pr, wt), fun j hj => ?_⟩
      have : j = 0 ∨ j = 1 ∨ j = 2 ∨ j = 3 ∨ j = 4 ∨ j = 5 := by omega
      rcases this with rfl | rfl | rfl | rfl | rfl | rfl <;> rfl
set_option maxRecDepth 100000 in
theorem open_deeds {H : Type} {enc : TypeId × Value → H} {W : World} {base : Nat} {v : Value} {d : DataW H} {p : List MemPlace} (hval : Value.okWide Tryz.prog W .any base 23 v) (h : DataW.Trod enc Tryz.prog W 0 (fun _ => true) true 23 v d p) :
    ∃ ds, DeedsAt W v ds := by
  obtain ⟨a, n, c, rfl⟩ := okWide_slice Tryz.underlying23 hval
  obtain ⟨fuel, hf⟩ := h
  rcases DataW.trod_slice Tryz.underlying23 hf with ⟨hcs, _⟩ | ⟨a', len, cap, elems, rest, m, _, hcs, _, hb, hl, hm, hlen, hel, _, _⟩
  · simp [Value.cells] at hcs
    obtain ⟨rfl, rfl, rfl⟩ := hcs
    exact ⟨[], none, 0, rfl, fun h => absurd h (by simp)⟩
  · simp [Value.cells] at hcs
    obtain ⟨rfl, rfl, rfl⟩ := hcs
    have hc6 : Tryz.prog.cellsOf 35 = 6 := by kernel_rfl
    rw [hc6] at hel
    have each : ∀ i, ∃ d : Dd, i < n → ∀ j, j < 6 → W.cell? ((a'.add (i * 6)).add j) = some (ddF d j) := fun i => by
      by_cases hi : i < n
      · have h1 := hel i hi
        rw [List.getElem?_eq_getElem (by omega), Option.bind_eq_some_iff] at h1
        obtain ⟨cs, hcs, hy⟩ := h1
        obtain ⟨dd, hd⟩ := open_deed hy
        exact ⟨dd, fun _ j hj => ((World.cells?_some hcs).2.2 j hj).trans (hd j hj)⟩
      · exact ⟨d0, fun h => absurd h hi⟩
    obtain ⟨f, hf⟩ := Classical.axiomOfChoice each
    have hlenf : ((List.range n).map f).length = n := by simp
    refine ⟨(List.range n).map f, some a', c, by rw [hlenf], fun h0 => ?_⟩
    rw [hlenf] at h0
    have c0 := hf 0 h0 0 (by omega)
    obtain ⟨g, o, sp⟩ := a'
    obtain rfl : sp = none := by simpa [Addr.add] using World.cell?_spot c0
    refine ⟨g, o, rfl, World.block_lt_of_cell? W ⟨g, o, none⟩ (by simpa [Addr.add] using c0), fun i hi j hj => ?_⟩
    rw [hlenf] at hi
    have ci := hf i hi j hj
    rw [show (⟨g, o, none⟩ : Addr).add (i * 6) = ⟨g, o + i * 6, none⟩ from Addr.add_mid g o _, show (⟨g, o + i * 6, none⟩ : Addr).add j = ⟨g, o + i * 6 + j, none⟩ from Addr.add_mid g _ j] at ci
    rw [ci, List.getD_eq_getElem?_getD, List.getElem?_map, List.getElem?_range hi]
    rfl
set_option maxRecDepth 100000 in
theorem walk {W : World} (v vd : Value) (L : List UInt8) (hD : DataAt W v L) (ds : List Dd) (hE : DeedsAt W vd ds) (hL : laidMet Tryz.prog Rows.fnPoDeedsRow.laid W) :
    Calls Tryz.prog 3 #[v, vd] W fun e w' => e = .returned (.bool true) ∧ RowKit.Below W.heap.size W w' := by
  by_cases h1 : L.length ≤ 2147483647
  · by_cases h2 : ds.length ≤ 2147483647
    · by_cases h3 : 640 < L.length ∨ L.length % 16 ≠ 0 ∨ 12 < ds.length
      · exact deeds_out v vd L ds h1 h2 h3 W hD hE
      · have g1 : L.length ≤ 640 := Nat.le_of_not_lt fun h => h3 (.inl h)
        have g2 : L.length % 16 = 0 := by
          rcases Nat.eq_zero_or_pos (L.length % 16) with h | h
          · exact h
          · exact absurd (.inr (.inl (Nat.ne_of_gt h))) h3
        have g3 : ds.length ≤ 12 := Nat.le_of_not_lt fun h => h3 (.inr (.inr h))
        exact deeds_in v vd L ds g1 g2 g3 W hD hE (tabB_of_laid hL)
    · exact deeds_long v vd L ds (.inr (by omega)) W hD hE
  · exact deeds_long v vd L ds (.inl (by omega)) W hD hE

theorem own : ownKnob Tryz.prog.godebug = none := by kernel_rfl
theorem laidOut : laidOutB Tryz.prog = true := by kernel_rfl
theorem door_met (os : Os) (args : Array Value) : laidMetH Tryz.prog Rows.fnPoDeedsRow.laid ((World.doorLaid Tryz.prog 63 os).forCall (fun _ _ => 0) ⟨#[], args, []⟩).memory :=
  laidMetH_of_parts3 (fuel := 8) (laidMet_of_run' 8 (by kernel_rfl) (by kernel_rfl)) (by kernel_rfl) (by kernel_rfl)
theorem laid_plain (W : World) (h : laidMetH Tryz.prog Rows.fnPoDeedsRow.laid W) : laidMet Tryz.prog Rows.fnPoDeedsRow.laid W := by
  rw [MakeChecks.laidMetH_plain _ _ _ (by kernel_rfl)] at h; exact h
set_option maxRecDepth 100000 in
theorem lifted (os : Os) (started : os.Started) (H : Type) (enc : TypeId × Value → H) :
    ReturnsInHanded {} Tryz.checked os 3 .any (fun w args => (Rows.fnPoDeedsSpec.pre enc Tryz.prog Tryz.f3 [] false w args ∧ laidMetH Tryz.prog Rows.fnPoDeedsRow.laid w) ∧ sizedMet enc Tryz.prog Tryz.f3 (OpenSpec.ofChange Rows.fnPoDeedsSpec) false w args)
      (Rows.fnPoDeedsSpec.post enc Tryz.prog Tryz.f3 false true false false) := by
  refine returnsInHanded_of_change_and (C := Tryz.checked) (X := fun w _ => laidMetH Tryz.prog Rows.fnPoDeedsRow.laid w) (fun _ _ _ hh h => h.of_heap hh) own started (by kernel_rfl) Tryz.func3
    (ChangeSpec.witness_shaped (enc := enc) (C := Tryz.checked) (os := os) (X := fun w _ => laidMetH Tryz.prog Rows.fnPoDeedsRow.laid w) false (World.doorLaid Tryz.prog 63 os) #[.slice none 0 0, .slice none 0 0] 8 rfl (World.shaped_of_RefB (by kernel_rfl) (by kernel_rfl)) (by kernel_rfl) (by kernel_rfl) (by kernel_rfl) (door_met os _)) ?_
  intro W base args ds gs before hval0 hW _ _ hL0 _
  have hval : ∀ (j : Nat) t v, Tryz.f3.params[j]? = some t → args[j]? = some v → Value.okWide Tryz.prog W .any base t v := hval0
  have hW' := hW
  obtain ⟨p, q, hA0, hV, rfl, hfz, hnd⟩ := hW
  have hA : DataW.TrodAll enc Tryz.prog W 0 (fun _ => true) true Tryz.f3.params.toList args.toList ds p := hA0
  rw [Tryz.params3] at hA hval
  obtain ⟨v0, vs0, d0, ds0, p0, q0, hargs0, rfl, rfl, h0, r0⟩ := trodAll_cons hA
  obtain ⟨v1, vs1, d1, ds1, p1, q1, hargs1, rfl, rfl, h1, r1⟩ := trodAll_cons r0
  obtain ⟨hnil, rfl, rfl⟩ := trodAll_nil r1
  obtain rfl : args = #[v0, v1] := by cases args; simp_all
  obtain ⟨rfl, rfl⟩ := trodVars_none hV
  have hlt := hW'.lt
  have k0 := h0
  obtain ⟨a0, w0⟩ := open_data (hval 0 22 v0 rfl rfl) h0
  have k1 := h1
  obtain ⟨a1, w1⟩ := open_deeds (hval 1 23 v1 rfl rfl) h1
  clear hA0 hval0
  have hL := laid_plain W hL0
  refine (walk v0 v1 a0 w0 a1 w1 hL).mono fun e W' ⟨he, hg⟩ => ?_
  subst he
  exact ⟨_, rfl, post_of_below (pa := p0 ++ (p1 ++ ([]))) (pv := []) hW' (fun _ _ _ => (trodAll_cons_mk (shut_bool Tryz.underlying4 _) trodAll_mk0)) (fun sp hsp => (trodAll_cons_mk (trod_keep laidOut (by kernel_rfl) (of_decide_eq_true (by kernel_rfl)) k0 hg (fun x hx => hlt x (by simp [hx])) (fun x hx => hsp x (by simp [hx]))) (trodAll_cons_mk (trod_keep laidOut (by kernel_rfl) (of_decide_eq_true (by kernel_rfl)) k1 hg (fun x hx => hlt x (by simp [hx])) (fun x hx => hsp x (by simp [hx]))) trodAll_mk0))) (fun _ _ => rfl) rfl hg (ok_one (by kernel_rfl) rfl (okWide_bool_mk Tryz.underlying4 _))⟩
theorem over : Rows.fnPoDeedsRow.holds Tryz.pinned (OpenSpec.ofChange Rows.fnPoDeedsSpec) :=
  OpenClaim.holds_of_wide 3 Tryz.f3 rfl rfl rfl rfl rfl rfl rfl ⟨rfl, rfl, rfl, rfl, rfl⟩ rfl rfl rfl rfl rfl (by kernel_rfl) Tryz.func3 (by kernel_rfl)
    (of_decide_eq_true (by kernel_rfl)) (by unfold Func.isWrapper; first | (rw [if_pos (by decide +kernel)]; kernel_rfl) | (rw [if_neg (by decide +kernel)]; exact ⟨rfl, rfl⟩))
    (fun os started H enc _ => lifted os started H enc)
/-- The statement: the tied card. -/
theorem proved : Rows.FnPoDeedsCardSaid :=
  Claim7.holds_tied_plain_at .later [] [.sentinel, .data, .data, .data, .data, .data, .data, .data] true (true, "2560275e70ca399faa91e624c739f0b23f7a21d682e938a9354844155204d381") true
    over (fun _ h => by cases h) (by kernel_rfl) (fun _ h => by cases h) fnPoDeeds_row_tie rfl ⟨rfl, rfl⟩ (by kernel_rfl) rfl
    (fun f fn hf hfn => by
      obtain rfl : f = 3 := Option.some.inj ((show Tryz.prog.funcNamed "pub-fianchetto/laws.FnPoDeeds" = some 3 by kernel_rfl).symm.trans hf) |>.symm
      obtain rfl : fn = Tryz.f3 := (Option.some.inj (Tryz.func3.symm.trans hfn)).symm
      exact ⟨by kernel_rfl, fun j t ht => by
        rw [Tryz.params3] at ht
        have hm : t ∈ [22, 23] := by simpa using Array.mem_of_getElem? ht
        have hall : ([22, 23].all fun u => !Tryz.prog.wantsStandIn u) = true := by kernel_rfl
        exact (show Tryz.prog.wantsStandIn t = false by simpa using List.all_eq_true.1 hall t hm)⟩)
    (by kernel_rfl)
#print axioms proved
end Go.Proofs.YtpoomblloahahaaGreatDoor.PoDeeds

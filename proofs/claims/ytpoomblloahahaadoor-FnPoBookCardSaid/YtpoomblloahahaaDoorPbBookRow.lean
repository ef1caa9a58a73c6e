/- For every list of bytes and every choice of a key: the law FnPoBook (a book is read as it lies) returns true. The tied card: io.EOF holds what the library's text lays in it. -/
import Derived.Test.YtpoomblloahahaaDoorPbO
import Derived.Test.YtpoomblloahahaaDoorKeep
import Derived.Test.YtpoomblloahahaaDoorTie
import Derived.Test.YtpoomblloahahaaDoorCards
import Derived.SevenTiedAt
import Derived.LaidMore
import Derived.Stop.Joined
import Derived.Stop.LaidErr
import Derived.ChangeMaps5
namespace Go.Proofs.YtpoomblloahahaaDoor.PoBook
open Go.ChangeShapes Go.WideShapes Go.ChangeAt Go.RowKit Go.PlainAid
set_option maxHeartbeats 4000000
set_option linter.unusedVariables false
set_option linter.unusedSimpArgs false

theorem star : "*" ++ "errors.errorString" = "*errors.errorString" := by decide
theorem rowErr (u : TypeId) (h : Tryd.prog.typeName? 3 u = some "*errors.errorString") : u = 84 :=
  typeName_ptr_named (nm := "errors.errorString") (by rw [star]; kernel_rfl) (by kernel_rfl) (by decide) u (by rw [star]; exact h)
theorem tabB_of_laid {W : World} (h : laidMet Tryd.prog Rows.fnPoBookRow.laid W) : TabB W := by
  have hg : Tryd.prog.globalNamed "io.EOF" = some 0 := by kernel_rfl
  obtain ⟨a, s, hv, _, _, _⟩ := laid_sentinel (n := "io.EOF") h hg (show (Tryd.prog.globals[0]?).map (·.type) = some 40 by kernel_rfl) Tryd.underlying40 rowErr Tryd.underlying84 Tryd.underlying86 rfl rfl Tryd.underlying9 (by kernel_rfl) (by kernel_rfl)
  have hc : W.cell? ⟨0, 0, none⟩ = some (.iface 84 (.pointer (some a))) := by simpa using World.var?_cell hg hv 0
  exact ⟨block_lt_of_cell hc, a, hc⟩
set_option maxRecDepth 100000 in
theorem open_data {H : Type} {enc : TypeId × Value → H} {W : World} {base : Nat} {v : Value} {d : DataW H} {p : List MemPlace} (hval : Value.okWide Tryd.prog W .any base 22 v) (h : DataW.Trod enc Tryd.prog W 0 (fun _ => true) true 22 v d p) :
    ∃ L, DataAt W v L := by
  obtain ⟨a, n, c, rfl⟩ := okWide_slice Tryd.underlying22 hval
  obtain ⟨fuel, hf⟩ := h
  rcases open_ints Tryd.underlying22 Tryd.underlying5 cellsU8 hf with ⟨hcs, _⟩ | ⟨a', n', c', zs, hcs, _, hl, hm, hz, _, hc, hwf⟩
  · simp [Value.cells] at hcs
    obtain ⟨rfl, rfl, rfl⟩ := hcs
    exact ⟨[], none, 0, rfl, Nat.le_refl _, fun h => absurd h (by simp)⟩
  · simp [Value.cells] at hcs
    obtain ⟨rfl, rfl, rfl⟩ := hcs
    rw [if_pos rfl] at hz
    have hlen : ((zs.take n).map fun z => UInt8.ofNat z.toNat).length = n := by simp; omega
    refine ⟨(zs.take n).map fun z => UInt8.ofNat z.toNat, some a', c, by rw [hlen], by rw [hlen]; exact hl, fun h0 => ?_⟩
    rw [hlen] at h0
    have c0 := hc 0 (by omega)
    obtain ⟨g, o, sp⟩ := a'
    obtain rfl : sp = none := by simpa [Addr.add] using World.cell?_spot c0
    refine ⟨g, o, rfl, World.block_lt_of_cell? W ⟨g, o, none⟩ (by simpa [Addr.add] using c0), fun i hi => ?_⟩
    rw [hlen] at hi
    have ci := hc i (by omega)
    rw [show (⟨g, o, none⟩ : Addr).add i = ⟨g, o + i, none⟩ from Addr.add_mid g o i] at ci
    have hin : zs.getD i 0 ∈ zs := by rw [List.getD_eq_getElem?_getD, List.getElem?_eq_getElem (by omega)]; exact List.getElem_mem _
    have hb := bounds_u8 (hwf _ hin)
    have e : byI ((zs.take n).map fun z => UInt8.ofNat z.toNat) i = zs.getD i 0 := by
      unfold byI
      rw [List.getD_eq_getElem?_getD, List.getElem?_map, List.getElem?_take_of_lt hi, List.getD_eq_getElem?_getD] at *
      rw [List.getElem?_eq_getElem (by omega)] at *
      simp only [Option.map_some, Option.getD_some] at *
      rw [UInt8.toNat_ofNat']
      omega
    rw [ci, e]
theorem b8 {n : Int} (h : (Lit.int .u8 n).wf = true) : 0 ≤ n ∧ n < 256 := by have := bounds_u8 h; omega
theorem walk {W : World} (v : Value) (L : List UInt8) (hD : DataAt W v L) (y : Int) (wy : (Lit.int .u8 y).wf = true) (hL : laidMet Tryd.prog Rows.fnPoBookRow.laid W) :
    Calls Tryd.prog 3 #[v, .int .u8 y] W fun e w' => e = .returned (.bool true) ∧ RowKit.Below W.heap.size W w' := by
  by_cases h1 : L.length ≤ 2147483647
  · by_cases h2 : L.length ≤ 640
    · by_cases h3 : L.length % 16 = 0
      · exact walk_yes v y (b8 wy) L h2 h3 W hD (tabB_of_laid hL)
      · exact walk_no v y (b8 wy) L h2 h3 W hD
    · exact walk_640 v y L h1 (by omega) W hD
  · exact walk_long v y L (by omega) W hD

theorem own : ownKnob Tryd.prog.godebug = none := by kernel_rfl
theorem laidOut : laidOutB Tryd.prog = true := by kernel_rfl
theorem door_met (os : Os) (args : Array Value) : laidMetH Tryd.prog Rows.fnPoBookRow.laid ((World.doorLaid Tryd.prog 28 os).forCall (fun _ _ => 0) ⟨#[], args, []⟩).memory :=
  laidMetH_of_parts3 (fuel := 8) (laidMet_of_run' 8 (by kernel_rfl) (by kernel_rfl)) (by kernel_rfl) (by kernel_rfl)
theorem laid_plain (W : World) (h : laidMetH Tryd.prog Rows.fnPoBookRow.laid W) : laidMet Tryd.prog Rows.fnPoBookRow.laid W := by
  rw [MakeChecks.laidMetH_plain _ _ _ (by kernel_rfl)] at h; exact h
set_option maxRecDepth 100000 in
theorem lifted (os : Os) (started : os.Started) (H : Type) (enc : TypeId × Value → H) :
    ReturnsInHanded {} Tryd.checked os 3 .any (fun w args => (Rows.fnPoBookSpec.pre enc Tryd.prog Tryd.f3 [] false w args ∧ laidMetH Tryd.prog Rows.fnPoBookRow.laid w) ∧ sizedMet enc Tryd.prog Tryd.f3 (OpenSpec.ofChange Rows.fnPoBookSpec) false w args)
      (Rows.fnPoBookSpec.post enc Tryd.prog Tryd.f3 false true false false) := by
  refine returnsInHanded_of_change_and (C := Tryd.checked) (X := fun w _ => laidMetH Tryd.prog Rows.fnPoBookRow.laid w) (fun _ _ _ hh h => h.of_heap hh) own started (by kernel_rfl) Tryd.func3
    (ChangeSpec.witness_shaped (enc := enc) (C := Tryd.checked) (os := os) (X := fun w _ => laidMetH Tryd.prog Rows.fnPoBookRow.laid w) false (World.doorLaid Tryd.prog 28 os) #[.slice none 0 0, .int .u8 0] 8 rfl (World.shaped_of_RefB (by kernel_rfl) (by kernel_rfl)) (by kernel_rfl) (by kernel_rfl) (by kernel_rfl) (door_met os _)) ?_
  intro W base args ds gs before hval0 hW _ _ hL0 _
  have hval : ∀ (j : Nat) t v, Tryd.f3.params[j]? = some t → args[j]? = some v → Value.okWide Tryd.prog W .any base t v := hval0
  have hW' := hW
  obtain ⟨p, q, hA0, hV, rfl, hfz, hnd⟩ := hW
  have hA : DataW.TrodAll enc Tryd.prog W 0 (fun _ => true) true Tryd.f3.params.toList args.toList ds p := hA0
  rw [Tryd.params3] at hA hval
  obtain ⟨v0, vs0, d0, ds0, p0, q0, hargs0, rfl, rfl, h0, r0⟩ := trodAll_cons hA
  obtain ⟨v1, vs1, d1, ds1, p1, q1, hargs1, rfl, rfl, h1, r1⟩ := trodAll_cons r0
  obtain ⟨hnil, rfl, rfl⟩ := trodAll_nil r1
  obtain rfl : args = #[v0, v1] := by cases args; simp_all
  obtain ⟨rfl, rfl⟩ := trodVars_none hV
  have hlt := hW'.lt
  have k0 := h0
  obtain ⟨a0, w0⟩ := open_data (hval 0 22 v0 rfl rfl) h0
  have k1 := h1
  obtain ⟨a1, rfl, rfl, rfl, w1⟩ := open_int Tryd.underlying5 (hval 1 5 v1 rfl rfl) h1
  clear hA0 hval0
  have hL := laid_plain W hL0
  refine (walk v0 a0 w0 a1 w1 hL).mono fun e W' ⟨he, hg⟩ => ?_
  subst he
  exact ⟨_, rfl, post_of_below (pa := p0 ++ ([] ++ ([]))) (pv := []) hW' (fun _ _ _ => (trodAll_cons_mk (shut_bool Tryd.underlying4 _) trodAll_mk0)) (fun sp hsp => (trodAll_cons_mk (trod_keep laidOut (by kernel_rfl) (of_decide_eq_true (by kernel_rfl)) k0 hg (fun x hx => hlt x (by simp [hx])) (fun x hx => hsp x (by simp [hx]))) (trodAll_cons_mk (trod_keep laidOut (by kernel_rfl) (of_decide_eq_true (by kernel_rfl)) k1 hg (fun _ h => by cases h) (fun _ h => by cases h)) trodAll_mk0))) (fun _ _ => rfl) rfl hg (ok_one (by kernel_rfl) rfl (okWide_bool_mk Tryd.underlying4 _))⟩
theorem over : Rows.fnPoBookRow.holds Tryd.pinned (OpenSpec.ofChange Rows.fnPoBookSpec) :=
  OpenClaim.holds_of_wide 3 Tryd.f3 rfl rfl rfl rfl rfl rfl rfl ⟨rfl, rfl, rfl, rfl, rfl⟩ rfl rfl rfl rfl rfl (by kernel_rfl) Tryd.func3 (by kernel_rfl)
    (of_decide_eq_true (by kernel_rfl)) (by unfold Func.isWrapper; first | (rw [if_pos (by decide +kernel)]; kernel_rfl) | (rw [if_neg (by decide +kernel)]; exact ⟨rfl, rfl⟩))
    (fun os started H enc _ => lifted os started H enc)
/-- The statement: the tied card. -/
theorem proved : Rows.FnPoBookCardSaid :=
  Claim7.holds_tied_plain_at .later [] [.sentinel] true (true, "cf48ec453a09645c6902c25242f5abb900523a0c56ff69de3627e5cc4eb84d44") true
    over (fun _ h => by cases h) (by kernel_rfl) (fun _ h => by cases h) fnPoBook_row_tie rfl ⟨rfl, rfl⟩ (by kernel_rfl) rfl
    (fun f fn hf hfn => by
      obtain rfl : f = 3 := Option.some.inj ((show Tryd.prog.funcNamed "pub-fianchetto/laws.FnPoBook" = some 3 by kernel_rfl).symm.trans hf) |>.symm
      obtain rfl : fn = Tryd.f3 := (Option.some.inj (Tryd.func3.symm.trans hfn)).symm
      exact ⟨by kernel_rfl, fun j t ht => by
        rw [Tryd.params3] at ht
        have hm : t ∈ [22, 5] := by simpa using Array.mem_of_getElem? ht
        have hall : ([22, 5].all fun u => !Tryd.prog.wantsStandIn u) = true := by kernel_rfl
        exact (show Tryd.prog.wantsStandIn t = false by simpa using List.all_eq_true.1 hall t hm)⟩)
    (by kernel_rfl)
#print axioms proved
end Go.Proofs.YtpoomblloahahaaDoor.PoBook

/- The law's example. -/
import Derived.Test.YtlcdhahnngfjhaaDoorLxO
namespace Go.Proofs.YtlcdhahnngfjhaaDoor
open Go.Proofs Go.Shelf Go.Lib Go.ChangeShapes Go.WideShapes Go.ChangeAt Go.RowKit Go.PlainAid
set_option maxHeartbeats 1000000
set_option linter.unusedVariables false
set_option linter.unusedSimpArgs false
attribute [local go_sem] tx_list tx_size bt_tx

set_option maxRecDepth 100000 in
theorem awake_any (w : World) (hT : LTabs w) : Calls Tryd.prog 6 #[] w fun e w' => e = .returned (.bool true) ∧ Below w.heap.size w w' := by
  have hlx : Hid (Calls Tryd.prog 5 #[.string ⟨#[49, 46, 32, 101, 52, 32, 123, 83, 116, 114, 111, 110, 103, 32, 109, 111, 118, 101, 125]⟩] w fun e w' => LexPost awK w e w') := Lib.hid (lex_any awL (by decide) awK (by decide) run_aw w hT)
  have hsm := Lib.hid (fun (B1 B2 : Nat) (v1 v2 : Value) (wx : World) (h1 : Toks B1 v1 awK wx) (h2 : Toks B2 v2 awK wx) => lexSame_any awK (by decide) (by decide) B1 B2 v1 v2 wx h1 h2)
  have hlit : Hid (∀ wx : World, Toks wx.heap.size (.slice (some ⟨wx.heap.size, 0, none⟩) 6 6) awK (wx.alloc (.cells #[.int .i64 6, .string ⟨#[49]⟩, .bool false, .int .i64 7, .string ⟨#[46]⟩, .bool false, .int .i64 10, .string ⟨#[101, 52]⟩, .bool false, .int .i64 11, .string ⟨#[123]⟩, .bool false, .int .i64 13, .string ⟨#[83, 116, 114, 111, 110, 103, 32, 109, 111, 118, 101]⟩, .bool false, .int .i64 12, .string ⟨#[125]⟩, .bool false] 26))) := Lib.hid (fun wx =>
    World.ownsRow_lit wx #[.int .i64 6, .string ⟨#[49]⟩, .bool false, .int .i64 7, .string ⟨#[46]⟩, .bool false, .int .i64 10, .string ⟨#[101, 52]⟩, .bool false, .int .i64 11, .string ⟨#[123]⟩, .bool false, .int .i64 13, .string ⟨#[83, 116, 114, 111, 110, 103, 32, 109, 111, 118, 101]⟩, .bool false, .int .i64 12, .string ⟨#[125]⟩, .bool false] 6 (Nat.le_refl _) (by unfold maxLen; omega) rfl)
  go_enter Tryd.func6, Tryd.ntmps6
  go_upto_region 2 with (go_at_call 5; refine hlx.out.mono ?_; rintro e w1 ⟨v, rfl, hv, hb1⟩)
  have hv' : Toks w.heap.size v awK w1 := hv
  replace hv' := Lib.hid hv'
  clear hv
  go_wp2_with (fail)
  refine (hsm.out _ _ _ _ _ (Toks.below hv'.out ((Below.refl w1.heap.size w1).alloc (Nat.le_refl _) _)) (hlit.out w1)).mono ?_
  rintro e w2 ⟨rfl, hb2⟩
  have hb3 := Lib.hid (((hb1.alloc hb1.size _).trans (hb2.mono (by have := hb1.size; simp; omega))))
  clear hb1 hb2
  go_wp2_with (fail)
  go_ret
  exact ⟨rfl, hb3.out⟩
end Go.Proofs.YtlcdhahnngfjhaaDoor

/- The lexer: all tokens of a text (chess.TokenizeGame). -/
import Derived.Test.YtlcdhahnngfjhaaDoorLxF
namespace Go.Proofs.YtlcdhahnngfjhaaDoor
open Go.Proofs Go.Shelf Go.Lib Go.ChangeShapes Go.WideShapes Go.ChangeAt Go.RowKit Go.PlainAid
set_option maxHeartbeats 2000000
set_option linter.unusedVariables false
set_option linter.unusedSimpArgs false
attribute [local go_sem] tx_list tx_size bt_tx

/-! Elements of three cells. -/
abbrev X3 := Value × Value × Value
def enc3 (x : X3) : List Value := [x.1, x.2.1, x.2.2]
def x3F (x : X3) : Nat → Value
  | 0 => x.1 | 1 => x.2.1 | _ => x.2.2
def cells3 (l : List X3) : List Value := l.flatMap enc3
theorem cells3_app (l : List X3) (x : X3) : cells3 (l ++ [x]) = cells3 l ++ enc3 x := by simp [cells3]
theorem cells3_get : ∀ (l : List X3) (i : Nat) (h : i < l.length) (j : Nat) (hj : j < 3), (cells3 l)[i * 3 + j]? = some (x3F l[i] j)
  | x :: r, 0, h, j, hj => by
    have : j = 0 ∨ j = 1 ∨ j = 2 := by omega
    rcases this with rfl | rfl | rfl <;> rfl
  | x :: r, i + 1, h, j, hj => by
    have := cells3_get r i (by simpa using h) j hj
    have e : cells3 (x :: r) = enc3 x ++ cells3 r := rfl
    rw [e, List.getElem?_append_right (by simp [enc3]; omega), show (i + 1) * 3 + j - (enc3 x).length = i * 3 + j by simp [enc3]; omega, this]
    simp
/-- A token's cells. -/
def TkX (k : Tk) (x : X3) : Prop := ErrV k.bad x.1 ∧ x.2.1 = .string (tx k.v) ∧ x.2.2 = .int .i64 k.t
def TkAll : List Tk → List X3 → Prop
  | [], [] => True
  | k :: ks, x :: xs => TkX k x ∧ TkAll ks xs
  | _, _ => False
theorem TkAll.len : ∀ {ks : List Tk} {l : List X3}, TkAll ks l → ks.length = l.length
  | [], [], _ => rfl
  | k :: ks, x :: xs, h => by have := TkAll.len (ks := ks) (l := xs) h.2; simp [this]
  | [], _ :: _, h => h.elim
  | _ :: _, [], h => h.elim
theorem TkAll.snoc : ∀ {ks : List Tk} {l : List X3} {k : Tk} {x : X3}, TkAll ks l → TkX k x → TkAll (ks ++ [k]) (l ++ [x])
  | [], [], _, _, _, hx => ⟨hx, trivial⟩
  | k :: ks, x :: xs, _, _, h, hx => ⟨h.1, TkAll.snoc h.2 hx⟩
  | [], _ :: _, _, _, h, _ => h.elim
  | _ :: _, [], _, _, h, _ => h.elim
theorem TkAll.get : ∀ {ks : List Tk} {l : List X3}, TkAll ks l → ∀ i (h1 : i < ks.length) (h2 : i < l.length), TkX ks[i] l[i]
  | k :: ks, x :: xs, h, 0, _, _ => h.1
  | k :: ks, x :: xs, h, i + 1, h1, h2 => by
    have := TkAll.get h.2 i (by simpa using h1) (by simpa using h2)
    simpa using this
  | [], _ :: _, h, _, _, _ => h.elim
  | _ :: _, [], h, _, _, _ => h.elim
  | [], [], _, i, h1, _ => absurd h1 (by simp)
def lenV : Value → Nat
  | .slice _ n _ => n
  | _ => 0
theorem lenV_own {w : World} {B n k : Nat} {T : TypeId} {v : Value} {xs : List Value} (ho : w.ownsRow B T k v n xs) : lenV v = n := by
  rcases ho.2 with ⟨rfl, h⟩ | ⟨g, cap, cur, rfl, _⟩
  · exact h.symm
  · rfl
/-- The tokens of the rest of a text. -/
inductive Run (L : List UInt8) : Nat → Fl → List Tk → Prop
  | stop {p p' : Nat} {f f' : Fl} {k : Tk} (h : Ok L p f k p' f') (h0 : k.t = 0) : Run L p f []
  | step {p p' : Nat} {f f' : Fl} {k : Tk} {ks : List Tk} (h : Ok L p f k p' f') (h0 : k.t ≠ 0) (r : Run L p' f' ks) : Run L p f (k :: ks)
theorem own_lx {gl : Nat} {w w' : World} (h : Lx gl w w') {B n k : Nat} {T : TypeId} {v : Value} {xs : List Value} (ho : w.ownsRow B T k v n xs) (hB : gl < B) : w'.ownsRow B T k v n xs := by
  obtain ⟨h0, h' | ⟨g, cap, cur, hv, hBg, hg, hr⟩⟩ := ho
  · exact ⟨h0, .inl h'⟩
  · refine ⟨h0, .inr ⟨g, cap, cur, hv, hBg, ?_, hr⟩⟩
    have hlt : g < w.heap.size := by
      rcases Nat.lt_or_ge g w.heap.size with h1 | h1
      · exact h1
      · rw [Array.getElem?_eq_none h1] at hg; cases hg
    rw [h.block g hlt (by omega)]; exact hg
theorem own_weak3 {B B' n k : Nat} {T : TypeId} {v : Value} {xs : List Value} {w : World} (h : w.ownsRow B T k v n xs) (hB : B' ≤ B) : w.ownsRow B' T k v n xs := by
  obtain ⟨h0, h' | ⟨g, cap, cur, hv, hBg, hr⟩⟩ := h
  · exact ⟨h0, .inl h'⟩
  · exact ⟨h0, .inr ⟨g, cap, cur, hv, by omega, hr⟩⟩
theorem own_keep3 {B n k : Nat} {T : TypeId} {v : Value} {xs : List Value} {w w' : World} (h : w.ownsRow B T k v n xs) (hb : Below w.heap.size w w') : w'.ownsRow B T k v n xs := by
  obtain ⟨h0, h' | ⟨g, cap, cur, hv, hBg, hg, hr⟩⟩ := h
  · exact ⟨h0, .inl h'⟩
  · refine ⟨h0, .inr ⟨g, cap, cur, hv, hBg, ?_, hr⟩⟩
    have hlt : g < w.heap.size := by
      rcases Nat.lt_or_ge g w.heap.size with h1 | h1
      · exact h1
      · rw [Array.getElem?_eq_none h1] at hg; cases hg
    rw [hb.block g hlt]; exact hg
set_option maxRecDepth 100000 in
theorem newLexer_any (L : List UInt8) (hL : L.length ≤ 1000000) (w : World) :
    Calls Tryd.prog 18 #[.string (tx L)] w fun e w' => ∃ gl, e = .returned (.pointer (some ⟨gl, 0, none⟩)) ∧ w.heap.size ≤ gl ∧ LexAt gl L 0 ⟨false, false, false, false⟩ w' ∧ Below w.heap.size w w' := by
  have hr0 : (w.alloc (.cells #[.string (tx L), .int .i64 0, .int .i64 0, .int .u8 0, .bool false, .bool false, .bool false, .bool false] 58)).rowIs w.heap.size 58 8 (rawF L 0 ((0 : Nat) : Int) 0 ⟨false, false, false, false⟩) :=
    (row_lit w #[.string (tx L), .int .i64 0, .int .i64 0, .int .u8 0, .bool false, .bool false, .bool false, .bool false] 58).congr fun j hj => by
      (have hj : j < 8 := hj)
      have : j = 0 ∨ j = 1 ∨ j = 2 ∨ j = 3 ∨ j = 4 ∨ j = 5 ∨ j = 6 ∨ j = 7 := by omega
      rcases this with rfl | rfl | rfl | rfl | rfl | rfl | rfl | rfl <;> rfl
  have hb0 : Below w.heap.size w (w.alloc (.cells #[.string (tx L), .int .i64 0, .int .i64 0, .int .u8 0, .bool false, .bool false, .bool false, .bool false] 58)) := (Below.refl _ _).alloc (Nat.le_refl _) _
  have hrd := Lib.hid (readChar_raw w.heap.size L 0 0 0 ⟨false, false, false, false⟩ hL (by omega) _ hr0)
  have hlt := hr0.lt
  replace hr0 := Lib.hid hr0
  go_enter Tryd.func18, Tryd.ntmps18
  go_upto_region 2 with (fail)
  generalize (w.alloc (.cells #[.string (tx L), .int .i64 0, .int .i64 0, .int .u8 0, .bool false, .bool false, .bool false, .bool false] 58)) = w1 at *
  go_wp2_with (go_at_call 20; refine hrd.out.mono ?_; rintro e w2 ⟨rfl, k2, hx2⟩)
  go_ret
  exact ⟨_, rfl, Nat.le_refl _, k2, hb0.trans (hx2.below (by omega))⟩
theorem infoTok : (Tryd.prog.info? 47).map (fun i => (i.zero, i.size, i.bytes)) = some (some (.agg #[.nilIface, .string ⟨#[]⟩, .int .i64 0]), 3, 40) := by kernel_rfl
def TkPost (ks : List Tk) (w : World) (e : Ending) (w' : World) : Prop := ∃ (l : List X3) (v : Value), e = .returned (.tuple #[v, .nilIface]) ∧ TkAll ks l ∧ w'.ownsRow w.heap.size 47 3 v l.length (cells3 l) ∧ Below w.heap.size w w'
set_option maxRecDepth 100000 in
theorem tokenize_any (L : List UInt8) (hL : L.length ≤ 1000000) (ks : List Tk) (hks : ks.length ≤ 100000) (hrun : Run L 0 ⟨false, false, false, false⟩ ks) (gs : Nat) (w : World) (hT : LTabs w) (hgs : w.cell? ⟨gs, 0, none⟩ = some (.string (tx L))) :
    Calls Tryd.prog 12 #[.pointer (some ⟨gs, 0, none⟩)] w fun e w' => TkPost ks w e w' := by
  have hnl := Lib.hid (newLexer_any L hL w)
  replace hrun := Lib.hid hrun
  go_enter Tryd.func12, Tryd.ntmps12
  go_upto_region 4 with (go_at_call 18; refine hnl.out.mono ?_; rintro e w1 ⟨gl, rfl, hgl, hk1, hb1⟩)
  have hT1 := Lib.hid (hT.below hb1 (Nat.le_refl _))
  have hg1 : gl < w1.heap.size := World.rowIs.lt hk1
  replace hb1 := Lib.hid hb1
  replace hk1 := Lib.hid hk1
  replace hT := Lib.hid hT
  clear hgs hnl
  go_wp2_with (fail)
  go_loopw [5] (fun v wr => ∃ (done todo : List Tk) (l : List X3) (p : Nat) (f : Fl), ks = done ++ todo ∧ Run L p f todo ∧ TkAll done l ∧ LexAt gl L p f wr ∧ LTabs wr ∧ wr.ownsRow w1.heap.size 47 3 v l.length (cells3 l) ∧ Below w.heap.size w wr ∧ w1.heap.size ≤ wr.heap.size) (fun v _ => ks.length - lenV v)
  case atStart => exact ⟨[], ks, [], 0, _, rfl, hrun.out, trivial, hk1.out, hT1.out, World.ownsRow_nil _ _ _ _, hb1.out, Nat.le_refl _⟩
  case round =>
    obtain ⟨done, todo, l, p, f, hdt, hr, hfa, hk, hTr, ho, hB, hsz⟩ := hrel
    have hlv := lenV_own ho
    have hdl := hfa.len
    have hpost : ∀ (k : Tk) (p' : Nat) (f' : Fl), Ok L p f k p' f' → Calls Tryd.prog 19 #[.pointer (some ⟨gl, 0, none⟩)] wr fun e w' => TokP gl L k p' f' wr e w' := fun k p' f' h => h gl wr hTr hk
    replace hpost := Lib.hid hpost
    cases hr with
    | stop h h0 =>
      rename_i p' f' k
      obtain ⟨kb, kv, kt⟩ := k
      have h0' : kt = 0 := h0
      subst h0'
      have hc := Lib.hid (hpost.out _ p' f' h)
      have hee : done = ks := by rw [hdt, List.append_nil]
      subst hee
      clear hpost hdt h0 h
      replace hfa := Lib.hid hfa
      go_upto_region 6 with (first
        | (go_at_call 19; refine hc.out.mono ?_; rintro e w5 ⟨ev, rfl, hev, k5, hx5⟩; have hone := Lib.hid (hev.one kv 0); have ho5 := Lib.hid (own_lx hx5 ho hg1); have hB5 := Lib.hid (hB.trans ((hx5.below (Nat.le_of_lt (World.rowIs.lt hk))).mono hgl)); clear hev k5 hx5)
        | (refine wpList_store_mid rfl 47 _ _ rfl w5.heap.size 0 #[ev, .string (tx kv), .int .i64 0] rfl rfl (rowIs_there (row_lit w5 #[.nilIface, .string ⟨#[]⟩, .int .i64 0] 47)) (by kernel_rfl) hone.out ?_))
      have hrw := row_store (row_lit w5 #[.nilIface, .string ⟨#[]⟩, .int .i64 0] 47) #[ev, .string (tx kv), .int .i64 0] rfl
      have hbw : Below w5.heap.size w5 ((w5.alloc (.cells #[.nilIface, .string ⟨#[]⟩, .int .i64 0] 47)).setCells w5.heap.size 0 [ev, .string (tx kv), .int .i64 0]) := below_setCells (Nat.le_refl _) _ _ _ ((Below.refl _ _).alloc (Nat.le_refl _) _)
      have hrw2 : ((w5.alloc (.cells #[.nilIface, .string ⟨#[]⟩, .int .i64 0] 47)).setCells w5.heap.size 0 [ev, .string (tx kv), .int .i64 0]).rowIs w5.heap.size 47 3 (fun j => (#[ev, .string (tx kv), .int .i64 0] : Array Value).getD j undef) := hrw
      clear hrw
      generalize ((w5.alloc (.cells #[.nilIface, .string ⟨#[]⟩, .int .i64 0] 47)).setCells w5.heap.size 0 [ev, .string (tx kv), .int .i64 0]) = w6 at *
      have d0 : w6.cell? ⟨w5.heap.size, 0, none⟩ = some ev := hrw2.cell (i := 0) (by omega)
      have d1 : w6.cell? ⟨w5.heap.size, 1, none⟩ = some (.string (tx kv)) := hrw2.cell (i := 1) (by omega)
      have d2 : w6.cell? ⟨w5.heap.size, 2, none⟩ = some (.int .i64 0) := hrw2.cell (i := 2) (by omega)
      replace hrw2 := Lib.hid hrw2
      have hfo := Lib.hid (own_keep3 (own_weak3 ho5.out hb1.out.size) hbw)
      have hfb := Lib.hid (hB5.out.trans (hbw.mono hB5.out.size))
      clear hbw hrw2 ho hk hTr hB
      go_wp2_with (fail)
      go_ret2
      exact ⟨l, _, rfl, hfa.out, hfo.out, hfb.out⟩
    | step h h0 r =>
      rename_i p' f' k ks'
      obtain ⟨kb, kv, kt⟩ := k
      have hkt : (kt == 0) = false := by rw [beq_eq_false_iff_ne]; exact h0
      have hc := Lib.hid (hpost.out _ p' f' h)
      have hkl : done.length < ks.length := by rw [hdt]; simp
      have hdt2 : ks = (done ++ [⟨kb, kv, kt⟩]) ++ ks' := by rw [hdt]; simp
      replace hdt2 := Lib.hid hdt2
      replace r := Lib.hid r
      clear hpost hdt h0 h
      replace hfa := Lib.hid hfa
      go_upto_region 6 with (first
        | (go_at_call 19; refine hc.out.mono ?_; rintro e w5 ⟨ev, rfl, hev, k5, hx5⟩; have hone := Lib.hid (hev.one kv kt); have hTx := Lib.hid (show TkX ⟨kb, kv, kt⟩ (ev, .string (tx kv), .int .i64 kt) from ⟨hev, rfl, rfl⟩); have ho5 := Lib.hid (own_lx hx5 ho hg1); have hB5 := Lib.hid (hB.trans ((hx5.below (Nat.le_of_lt (World.rowIs.lt hk))).mono hgl)); have hT5 := Lib.hid (hTr.lx hk hx5); have hs5 := Nat.le_trans hsz hx5.size; replace k5 := Lib.hid k5; clear hev hx5)
        | (refine wpList_store_mid rfl 47 _ _ rfl w5.heap.size 0 #[ev, .string (tx kv), .int .i64 kt] rfl rfl (rowIs_there (row_lit w5 #[.nilIface, .string ⟨#[]⟩, .int .i64 0] 47)) (by kernel_rfl) hone.out ?_))
      have hrw := row_store (row_lit w5 #[.nilIface, .string ⟨#[]⟩, .int .i64 0] 47) #[ev, .string (tx kv), .int .i64 kt] rfl
      have hbw : Below w5.heap.size w5 ((w5.alloc (.cells #[.nilIface, .string ⟨#[]⟩, .int .i64 0] 47)).setCells w5.heap.size 0 [ev, .string (tx kv), .int .i64 kt]) := below_setCells (Nat.le_refl _) _ _ _ ((Below.refl _ _).alloc (Nat.le_refl _) _)
      have hrw2 : ((w5.alloc (.cells #[.nilIface, .string ⟨#[]⟩, .int .i64 0] 47)).setCells w5.heap.size 0 [ev, .string (tx kv), .int .i64 kt]).rowIs w5.heap.size 47 3 (fun j => (#[ev, .string (tx kv), .int .i64 kt] : Array Value).getD j undef) := hrw
      clear hrw
      generalize ((w5.alloc (.cells #[.nilIface, .string ⟨#[]⟩, .int .i64 0] 47)).setCells w5.heap.size 0 [ev, .string (tx kv), .int .i64 kt]) = w6 at *
      have d0 : w6.cell? ⟨w5.heap.size, 0, none⟩ = some ev := hrw2.cell (i := 0) (by omega)
      have d1 : w6.cell? ⟨w5.heap.size, 1, none⟩ = some (.string (tx kv)) := hrw2.cell (i := 1) (by omega)
      have d2 : w6.cell? ⟨w5.heap.size, 2, none⟩ = some (.int .i64 kt) := hrw2.cell (i := 2) (by omega)
      replace hrw2 := Lib.hid hrw2
      have hob := Lib.hid (own_keep3 ho5.out hbw)
      have hk6 := Lib.hid (LexAt.of_below k5.out hbw)
      have hT6 := Lib.hid (hT5.out.below hbw (Nat.le_refl _))
      have hB6 := Lib.hid (hB5.out.trans (hbw.mono hB5.out.size))
      have hs6 : w1.heap.size ≤ w6.heap.size := Nat.le_trans hs5 hbw.size
      have hl1 : l.length < 1000000000 := by omega
      clear hbw hrw2 ho hk hTr hB ho5 k5 hT5 hB5
      go_wp2_with (at_builtin; refine wpList_app rfl _ _ 37 rfl w1.heap.size 47 (.agg #[.nilIface, .string ⟨#[]⟩, .int .i64 0]) 3 40 Tryd.underlying37 infoTok rfl (by decide) _ l.length (cells3 l) rfl hob.out (Below.refl _ w6) hs6 [ev, .string (tx kv), .int .i64 kt] (by have := hone.out; simpa using this) rfl _ rfl rfl hl1 (by decide) ?_; intro v' w7 hown7 hB7 hnil; replace hown7 := Lib.hid hown7; replace hB7 := Lib.hid hB7; clear hnil)
      have hz1 := hb1.out.size
      have hB8 := hB6.out.trans (hB7.out.mono hz1)
      have hlv7 := lenV_own hown7.out
      have ho8 : w7.ownsRow w1.heap.size 47 3 v' (l ++ [((ev, Value.string (tx kv), Value.int .i64 kt) : X3)]).length (cells3 (l ++ [((ev, Value.string (tx kv), Value.int .i64 kt) : X3)])) := by
        have := hown7.out
        rw [cells3_app, List.length_append]
        exact this
      exact ⟨⟨done ++ [⟨kb, kv, kt⟩], ks', l ++ [((ev, Value.string (tx kv), Value.int .i64 kt) : X3)], p', f', hdt2.out, r.out, hfa.out.snoc hTx.out, World.rowIs.of_block hk6.out (hB7.out.block gl hg1), hT.out.below hB8 (Nat.le_refl _), ho8, hB8, Nat.le_trans hs6 hB7.out.size⟩, by omega⟩
end Go.Proofs.YtlcdhahnngfjhaaDoor

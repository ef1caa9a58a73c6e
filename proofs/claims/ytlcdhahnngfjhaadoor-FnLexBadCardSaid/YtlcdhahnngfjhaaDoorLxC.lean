/- The lexer: pieces and ranks. -/
import Derived.Test.YtlcdhahnngfjhaaDoorLxB
import Derived.Deep.MidRow
import Derived.Laws.Rows
namespace Go.Proofs.YtlcdhahnngfjhaaDoor
open Go.ChangeShapes Go.WideShapes Go.ChangeAt Go.RowKit Go.PlainAid
set_option maxHeartbeats 1000000
set_option linter.unusedVariables false
set_option linter.unusedSimpArgs false
attribute [local go_sem] tx_list tx_size bt_tx

def bAt (L : List UInt8) (p : Nat) : UInt8 := L.getD p 0
/-- A token. -/
structure Tk where
  bad : Bool
  v : List UInt8
  t : Int
def tokV (e : Value) (v : List UInt8) (t : Int) : Value := .agg #[e, .string (tx v), .int .i64 t]
/-- What tells whether a token is bad. -/
def ErrV (bad : Bool) (e : Value) : Prop := if bad = true then ∃ g, e = .iface 70 (.pointer (some ⟨g, 0, none⟩)) else e = .nilIface
def TokP (gl : Nat) (L : List UInt8) (k : Tk) (p : Nat) (f : Fl) (w : World) (e : Ending) (w' : World) : Prop :=
  ∃ ev, e = .returned (tokV ev k.v k.t) ∧ ErrV k.bad ev ∧ LexAt gl L p f w' ∧ Lx gl w w'
theorem errPiece_any (p : Int) (w : World) : Calls Tryd.prog 47 #[.int .i64 p] w fun e w' => ∃ ev, e = .returned ev ∧ ErrV true ev ∧ Below w.heap.size w w' := by
  go_enter Tryd.func47, Tryd.ntmps47
  go_wp2
  go_ret
  exact ⟨_, rfl, ⟨_, rfl⟩, (Below.refl _ _).alloc (Nat.le_refl _) _⟩
theorem errRank_any (p : Int) (w : World) : Calls Tryd.prog 50 #[.int .i64 p] w fun e w' => ∃ ev, e = .returned ev ∧ ErrV true ev ∧ Below w.heap.size w w' := by
  go_enter Tryd.func50, Tryd.ntmps50
  go_wp2
  go_ret
  exact ⟨_, rfl, ⟨_, rfl⟩, (Below.refl _ _).alloc (Nat.le_refl _) _⟩
theorem errSquare_any (p : Int) (w : World) : Calls Tryd.prog 52 #[.int .i64 p] w fun e w' => ∃ ev, e = .returned ev ∧ ErrV true ev ∧ Below w.heap.size w w' := by
  go_enter Tryd.func52, Tryd.ntmps52
  go_wp2
  go_ret
  exact ⟨_, rfl, ⟨_, rfl⟩, (Below.refl _ _).alloc (Nat.le_refl _) _⟩
theorem errComment_any (p : Int) (w : World) : Calls Tryd.prog 43 #[.int .i64 p] w fun e w' => ∃ ev, e = .returned ev ∧ ErrV true ev ∧ Below w.heap.size w w' := by
  go_enter Tryd.func43, Tryd.ntmps43
  go_wp2
  go_ret
  exact ⟨_, rfl, ⟨_, rfl⟩, (Below.refl _ _).alloc (Nat.le_refl _) _⟩
theorem enc_all : (List.range 128).all (fun c => (Utf8.encode (c : Int)).data.toList == [UInt8.ofNat c]) = true := by decide +kernel
theorem enc_ch (L : List UInt8) (p : Nat) (h : chAt L p < 128) : Utf8.encode ((chAt L p : Nat) : Int) = tx [bAt L p] := by
  have h1 := List.all_eq_true.1 enc_all (chAt L p) (List.mem_range.2 h)
  have h2 := eq_of_beq h1
  have e : UInt8.ofNat (chAt L p) = bAt L p := by unfold chAt bAt; exact UInt8.ofNat_toNat
  rw [e] at h2
  rw [← tx_toList (Utf8.encode _), h2]
theorem tok_laid {gl : Nat} {L : List UInt8} {p : Nat} {f : Fl} {w : World} (h : LexAt gl L p f w) :
    LexAt gl L p f (w.alloc (.cells #[.nilIface, .string ⟨#[]⟩, .int .i64 0] 47)) ∧ Lx gl w (w.alloc (.cells #[.nilIface, .string ⟨#[]⟩, .int .i64 0] 47)) ∧
    (w.alloc (.cells #[.nilIface, .string ⟨#[]⟩, .int .i64 0] 47)).rowIs w.heap.size 47 3 (fun j => (#[Value.nilIface, .string ⟨#[]⟩, .int .i64 0] : Array Value).getD j undef) :=
  ⟨h.of_below ((Below.refl _ _).alloc (Nat.le_refl _) _), Lx.of_below ((Below.refl _ _).alloc (Nat.le_refl _) _), row_lit w _ _⟩
theorem tok_ret {fn : Func} (h : fn.results = #[.cell 2 47]) (tmps : Array Value) {w : World} {b : Nat} {F : Nat → Value} (hr : w.rowIs b 47 3 F) (hp : tmps.getD 2 undef = .pointer (some ⟨b, 0, none⟩)) (e : Value) (v : List UInt8) (t : Int) :
    (results fn tmps).run Tryd.prog (w.setCells b 0 [e, .string (tx v), .int .i64 t]) = .ok (tokV e v t) (w.setCells b 0 [e, .string (tx v), .int .i64 t]) :=
  results_cell_row h tmps _ b _ _ (0, 0) _ hp (rowIs_block (row_store hr #[e, .string (tx v), .int .i64 t] rfl)) Tryd.underlying47 rfl (by kernel_rfl)
theorem tok_fin {gl : Nat} {L : List UInt8} {p : Nat} {f : Fl} {w w3 : World} {b : Nat} (h : LexAt gl L p f w3) (hx : Lx gl w w3) (hb : w.heap.size ≤ b) (hne : b ≠ gl) (cs : List Value) :
    LexAt gl L p f (w3.setCells b 0 cs) ∧ Lx gl w (w3.setCells b 0 cs) := by
  refine ⟨World.rowIs.of_block h (setCells_other _ _ _ _ _ (Ne.symm hne)), ?_⟩
  have hB : Below b w3 (w3.setCells b 0 cs) := below_setCells (Nat.le_refl _) cs 0 w3 (Below.refl _ _)
  exact ⟨hB.os.trans hx.os, hB.tape.trans hx.tape, hB.output.trans hx.output, Nat.le_trans hx.size hB.size, fun k hk hn => (hB.block k (by omega)).trans (hx.block k hk hn)⟩
theorem tok_none {gl : Nat} {L : List UInt8} {p : Nat} {f : Fl} {w w3 : World} {b : Nat} {v : List UInt8} {t : Int} (h : LexAt gl L p f w3) (hx : Lx gl w w3) (hb : w.heap.size ≤ b) (hne : b ≠ gl) :
    TokP gl L ⟨false, v, t⟩ p f w (.returned (tokV .nilIface v t)) (w3.setCells b 0 [.nilIface, .string (tx v), .int .i64 t]) :=
  ⟨_, rfl, by unfold ErrV; simp, tok_fin h hx hb hne _⟩
theorem tok_bad {gl : Nat} {L : List UInt8} {p : Nat} {f : Fl} {w w3 : World} {b : Nat} {v : List UInt8} {t : Int} {ev : Value} (h : LexAt gl L p f w3) (hx : Lx gl w w3) (hb : w.heap.size ≤ b) (hne : b ≠ gl) (he : ErrV true ev) :
    TokP gl L ⟨true, v, t⟩ p f w (.returned (tokV ev v t)) (w3.setCells b 0 [ev, .string (tx v), .int .i64 t]) :=
  ⟨_, rfl, he, tok_fin h hx hb hne _⟩
theorem tok_any {gl : Nat} {L : List UInt8} {p : Nat} {f : Fl} {w w3 : World} {b : Nat} {k : Tk} {ev : Value} (h : LexAt gl L p f w3) (hx : Lx gl w w3) (hb : w.heap.size ≤ b) (hne : b ≠ gl) (he : ErrV k.bad ev) :
    TokP gl L k p f w (.returned (tokV ev k.v k.t)) (w3.setCells b 0 [ev, .string (tx k.v), .int .i64 k.t]) :=
  ⟨_, rfl, he, tok_fin h hx hb hne _⟩
theorem ErrV.one {b : Bool} {ev : Value} (h : ErrV b ev) (v : List UInt8) (t : Int) : (#[ev, .string (tx v), .int .i64 t] : Array Value).all (·.oneCell') = true := by
  unfold ErrV at h
  split at h
  · obtain ⟨g, rfl⟩ := h; simp [Value.oneCell']
  · subst h; simp [Value.oneCell']
set_option maxRecDepth 100000 in
theorem readPiece_any (gl : Nat) (L : List UInt8) (p : Nat) (f : Fl) (hL : L.length ≤ 1000000) (hp : p ≤ L.length) (hA : chAt L p < 128) (w : World) (h : LexAt gl L p f w) :
    Calls Tryd.prog 32 #[.pointer (some ⟨gl, 0, none⟩)] w fun e w' => TokP gl L ⟨!isPc (chAt L p), [bAt L p], 9⟩ (p + 1) f w e w' := by
  obtain ⟨h1, hx1, hr1⟩ := tok_laid h
  have hgl : w.heap.size ≠ gl := by have := World.rowIs.lt h; omega
  have c3 := h1.cells.2.2.2.1
  have hu := enc_ch L p hA
  have hpc := isPiece_any (chAt L p)
  obtain ⟨bd, hbd⟩ : ∃ b, b = !isPc (chAt L p) := ⟨_, rfl⟩
  rw [← hbd]
  replace hbd := Lib.hid hbd
  replace hpc := Lib.hid hpc
  go_enter Tryd.func32, Tryd.ntmps32
  go_upto_region 1 with (fail)
  generalize (w.alloc (.cells #[.nilIface, .string ⟨#[]⟩, .int .i64 0] 47)) = w1 at *
  have hrd := Lib.hid (readChar_any gl L p f hL (by omega) w1 h1)
  generalize chAt L p = C at *
  replace h1 := Lib.hid h1
  replace hr1 := Lib.hid hr1
  cases hpi : isPc C
  · have hbe : bd = true := by rw [hbd.out, hpi]; rfl
    subst hbe
    go_upto_region 4 with (first
      | (go_at_call 46; refine (hpc.out _).mono ?_; rintro e w' ⟨rfl, rfl⟩)
      | (go_at_call 20; refine hrd.out.mono ?_; rintro e w2 ⟨rfl, h2, hx2⟩))
    have hr2 := Lib.hid (hx2.row hr1.out hgl)
    obtain ⟨pp, c1⟩ : ∃ pp : Int, w2.cell? ⟨gl, 1, none⟩ = some (.int .i64 pp) := ⟨_, h2.cells.2.1⟩
    replace h2 := Lib.hid h2
    go_wp2_with (fail)
    refine (errPiece_any _ _).mono ?_
    rintro e w3 ⟨ev, rfl, ⟨ge, rfl⟩, hb3⟩
    have hr3 := Lib.hid (rowIs_below hr2.out hb3 hr2.out.lt)
    have hfi := Lib.hid (tok_bad (v := [bAt L p]) (t := 9) (h2.out.of_below hb3) ((hx1.trans hx2).trans (Lx.of_below hb3)) (Nat.le_refl w.heap.size) hgl ⟨ge, rfl⟩)
    replace hb3 := Lib.hid hb3
    go_wp2_with (refine wpList_store_mid rfl 47 _ _ rfl w.heap.size 0 #[.iface 70 (.pointer (some ⟨ge, 0, none⟩)), .string (tx [bAt L p]), .int .i64 9] rfl rfl (rowIs_there hr3.out) (by kernel_rfl) (by simp [Value.oneCell']) ?_)
    exact bodyPost_ret (tok_ret rfl _ hr3.out rfl _ _ _) rfl hfi.out
  · have hbe : bd = false := by rw [hbd.out, hpi]; rfl
    subst hbe
    go_wp2_with (first
      | (go_at_call 46; refine (hpc.out _).mono ?_; rintro e w' ⟨rfl, rfl⟩)
      | (go_at_call 20; refine hrd.out.mono ?_; rintro e w2 ⟨rfl, h2, hx2⟩; have hr2 := Lib.hid (hx2.row hr1.out hgl))
      | (refine wpList_store_mid rfl 47 _ _ rfl w.heap.size 0 #[.nilIface, .string (tx [bAt L p]), .int .i64 9] rfl rfl (rowIs_there hr2.out) (by kernel_rfl) (by simp [Value.oneCell']) ?_))
    exact bodyPost_ret (tok_ret rfl _ hr2.out rfl _ _ _) rfl (tok_none h2 (hx1.trans hx2) (Nat.le_refl _) hgl)
set_option maxRecDepth 100000 in
theorem readPromo_any (gl : Nat) (L : List UInt8) (p : Nat) (f : Fl) (hL : L.length ≤ 1000000) (hp : p ≤ L.length) (hA : chAt L p < 128) (w : World) (h : LexAt gl L p f w) :
    Calls Tryd.prog 37 #[.pointer (some ⟨gl, 0, none⟩)] w fun e w' => TokP gl L ⟨!isPc (chAt L p), [bAt L p], 21⟩ (p + 1) f w e w' := by
  obtain ⟨h1, hx1, hr1⟩ := tok_laid h
  have hgl : w.heap.size ≠ gl := by have := World.rowIs.lt h; omega
  have c3 := h1.cells.2.2.2.1
  have hu := enc_ch L p hA
  have hpc := isPiece_any (chAt L p)
  obtain ⟨bd, hbd⟩ : ∃ b, b = !isPc (chAt L p) := ⟨_, rfl⟩
  rw [← hbd]
  replace hbd := Lib.hid hbd
  replace hpc := Lib.hid hpc
  go_enter Tryd.func37, Tryd.ntmps37
  go_upto_region 1 with (fail)
  generalize (w.alloc (.cells #[.nilIface, .string ⟨#[]⟩, .int .i64 0] 47)) = w1 at *
  have hrd := Lib.hid (readChar_any gl L p f hL (by omega) w1 h1)
  generalize chAt L p = C at *
  replace h1 := Lib.hid h1
  replace hr1 := Lib.hid hr1
  cases hpi : isPc C
  · have hbe : bd = true := by rw [hbd.out, hpi]; rfl
    subst hbe
    go_upto_region 4 with (first
      | (go_at_call 46; refine (hpc.out _).mono ?_; rintro e w' ⟨rfl, rfl⟩)
      | (go_at_call 20; refine hrd.out.mono ?_; rintro e w2 ⟨rfl, h2, hx2⟩))
    have hr2 := Lib.hid (hx2.row hr1.out hgl)
    obtain ⟨pp, c1⟩ : ∃ pp : Int, w2.cell? ⟨gl, 1, none⟩ = some (.int .i64 pp) := ⟨_, h2.cells.2.1⟩
    replace h2 := Lib.hid h2
    go_wp2_with (fail)
    refine (errPiece_any _ _).mono ?_
    rintro e w3 ⟨ev, rfl, ⟨ge, rfl⟩, hb3⟩
    have hr3 := Lib.hid (rowIs_below hr2.out hb3 hr2.out.lt)
    have hfi := Lib.hid (tok_bad (v := [bAt L p]) (t := 21) (h2.out.of_below hb3) ((hx1.trans hx2).trans (Lx.of_below hb3)) (Nat.le_refl w.heap.size) hgl ⟨ge, rfl⟩)
    replace hb3 := Lib.hid hb3
    go_wp2_with (refine wpList_store_mid rfl 47 _ _ rfl w.heap.size 0 #[.iface 70 (.pointer (some ⟨ge, 0, none⟩)), .string (tx [bAt L p]), .int .i64 21] rfl rfl (rowIs_there hr3.out) (by kernel_rfl) (by simp [Value.oneCell']) ?_)
    exact bodyPost_ret (tok_ret rfl _ hr3.out rfl _ _ _) rfl hfi.out
  · have hbe : bd = false := by rw [hbd.out, hpi]; rfl
    subst hbe
    go_wp2_with (first
      | (go_at_call 46; refine (hpc.out _).mono ?_; rintro e w' ⟨rfl, rfl⟩)
      | (go_at_call 20; refine hrd.out.mono ?_; rintro e w2 ⟨rfl, h2, hx2⟩; have hr2 := Lib.hid (hx2.row hr1.out hgl))
      | (refine wpList_store_mid rfl 47 _ _ rfl w.heap.size 0 #[.nilIface, .string (tx [bAt L p]), .int .i64 21] rfl rfl (rowIs_there hr2.out) (by kernel_rfl) (by simp [Value.oneCell']) ?_))
    exact bodyPost_ret (tok_ret rfl _ hr2.out rfl _ _ _) rfl (tok_none h2 (hx1.trans hx2) (Nat.le_refl _) hgl)
set_option maxRecDepth 100000 in
theorem readRank_any (gl : Nat) (L : List UInt8) (p : Nat) (f : Fl) (hL : L.length ≤ 1000000) (hp : p ≤ L.length) (hA : chAt L p < 128) (w : World) (h : LexAt gl L p f w) :
    Calls Tryd.prog 34 #[.pointer (some ⟨gl, 0, none⟩)] w fun e w' => TokP gl L ⟨!isRk (chAt L p), [bAt L p], 17⟩ (p + 1) f w e w' := by
  obtain ⟨h1, hx1, hr1⟩ := tok_laid h
  have hgl : w.heap.size ≠ gl := by have := World.rowIs.lt h; omega
  have c3 := h1.cells.2.2.2.1
  have hu := enc_ch L p hA
  have hpc := isRank_any (chAt L p)
  obtain ⟨bd, hbd⟩ : ∃ b, b = !isRk (chAt L p) := ⟨_, rfl⟩
  rw [← hbd]
  replace hbd := Lib.hid hbd
  replace hpc := Lib.hid hpc
  go_enter Tryd.func34, Tryd.ntmps34
  go_upto_region 1 with (fail)
  generalize (w.alloc (.cells #[.nilIface, .string ⟨#[]⟩, .int .i64 0] 47)) = w1 at *
  have hrd := Lib.hid (readChar_any gl L p f hL (by omega) w1 h1)
  generalize chAt L p = C at *
  replace h1 := Lib.hid h1
  replace hr1 := Lib.hid hr1
  cases hpi : isRk C
  · have hbe : bd = true := by rw [hbd.out, hpi]; rfl
    subst hbe
    go_upto_region 4 with (first
      | (go_at_call 49; refine (hpc.out _).mono ?_; rintro e w' ⟨rfl, rfl⟩)
      | (go_at_call 20; refine hrd.out.mono ?_; rintro e w2 ⟨rfl, h2, hx2⟩))
    have hr2 := Lib.hid (hx2.row hr1.out hgl)
    obtain ⟨pp, c1⟩ : ∃ pp : Int, w2.cell? ⟨gl, 1, none⟩ = some (.int .i64 pp) := ⟨_, h2.cells.2.1⟩
    replace h2 := Lib.hid h2
    go_wp2_with (fail)
    refine (errRank_any _ _).mono ?_
    rintro e w3 ⟨ev, rfl, ⟨ge, rfl⟩, hb3⟩
    have hr3 := Lib.hid (rowIs_below hr2.out hb3 hr2.out.lt)
    have hfi := Lib.hid (tok_bad (v := [bAt L p]) (t := 17) (h2.out.of_below hb3) ((hx1.trans hx2).trans (Lx.of_below hb3)) (Nat.le_refl w.heap.size) hgl ⟨ge, rfl⟩)
    replace hb3 := Lib.hid hb3
    go_wp2_with (refine wpList_store_mid rfl 47 _ _ rfl w.heap.size 0 #[.iface 70 (.pointer (some ⟨ge, 0, none⟩)), .string (tx [bAt L p]), .int .i64 17] rfl rfl (rowIs_there hr3.out) (by kernel_rfl) (by simp [Value.oneCell']) ?_)
    exact bodyPost_ret (tok_ret rfl _ hr3.out rfl _ _ _) rfl hfi.out
  · have hbe : bd = false := by rw [hbd.out, hpi]; rfl
    subst hbe
    go_wp2_with (first
      | (go_at_call 49; refine (hpc.out _).mono ?_; rintro e w' ⟨rfl, rfl⟩)
      | (go_at_call 20; refine hrd.out.mono ?_; rintro e w2 ⟨rfl, h2, hx2⟩; have hr2 := Lib.hid (hx2.row hr1.out hgl))
      | (refine wpList_store_mid rfl 47 _ _ rfl w.heap.size 0 #[.nilIface, .string (tx [bAt L p]), .int .i64 17] rfl rfl (rowIs_there hr2.out) (by kernel_rfl) (by simp [Value.oneCell']) ?_))
    exact bodyPost_ret (tok_ret rfl _ hr2.out rfl _ _ _) rfl (tok_none h2 (hx1.trans hx2) (Nat.le_refl _) hgl)
end Go.Proofs.YtlcdhahnngfjhaaDoor

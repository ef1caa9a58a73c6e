/- The lexer: its state, one byte on. -/
import Derived.Test.YtlcdhahnngfjhaaDoorCells
import Derived.BigQuiet
import Derived.Deep.Cut
import Derived.Deep.CutRange
import Derived.Deep.RegionHeld3
namespace Go.Proofs.YtlcdhahnngfjhaaDoor
open Go.ChangeShapes Go.WideShapes Go.ChangeAt Go.RowKit Go.PlainAid
set_option maxHeartbeats 1000000
set_option linter.unusedVariables false
set_option linter.unusedSimpArgs false
attribute [local go_sem] tx_list tx_size bt_tx

/-- What a lexer remembers besides its place. -/
structure Fl where
  tag : Bool
  comment : Bool
  command : Bool
  param : Bool
def chAt (L : List UInt8) (p : Nat) : Nat := (L.getD p 0).toNat
theorem chAt_lt (L : List UInt8) (p : Nat) : chAt L p < 256 := UInt8.toNat_lt _
theorem chAt_end (L : List UInt8) (p : Nat) (h : L.length ≤ p) : chAt L p = 0 := by
  unfold chAt; rw [List.getD_eq_getElem?_getD, List.getElem?_eq_none h]; rfl
def rawF (L : List UInt8) (P r c : Int) (f : Fl) : Nat → Value
  | 0 => .string (tx L) | 1 => .int .i64 P | 2 => .int .i64 r | 3 => .int .u8 c | 4 => .bool f.tag | 5 => .bool f.comment | 6 => .bool f.command | _ => .bool f.param
/-- A lexer of a text at a place. -/
def LexAt (gl : Nat) (L : List UInt8) (p : Nat) (f : Fl) (w : World) : Prop := w.rowIs gl 58 8 (rawF L (p : Int) ((p : Int) + 1) (chAt L p : Nat) f)
/-- All blocks but the lexer's stay. -/
structure Lx (gl : Nat) (w w' : World) : Prop where
  os : w'.os = w.os
  tape : w'.tape = w.tape
  output : w'.output = w.output
  size : w.heap.size ≤ w'.heap.size
  block : ∀ k, k < w.heap.size → k ≠ gl → w'.heap[k]? = w.heap[k]?
theorem Lx.refl (gl : Nat) (w : World) : Lx gl w w := ⟨rfl, rfl, rfl, Nat.le_refl _, fun _ _ _ => rfl⟩
theorem Lx.trans {gl : Nat} {a b c : World} (h : Lx gl a b) (k : Lx gl b c) : Lx gl a c :=
  ⟨k.os.trans h.os, k.tape.trans h.tape, k.output.trans h.output, Nat.le_trans h.size k.size, fun i hi hn => (k.block i (Nat.lt_of_lt_of_le hi h.size) hn).trans (h.block i hi hn)⟩
theorem Lx.of_below {gl : Nat} {w w' : World} (h : Below w.heap.size w w') : Lx gl w w' := ⟨h.os, h.tape, h.output, h.size, fun k hk _ => h.block k hk⟩
theorem Lx.drewN {gl : Nat} (w : World) (n : Nat) : Lx gl w (w.drewN n) := ⟨rfl, rfl, rfl, Nat.le_refl _, fun _ _ _ => rfl⟩
theorem Lx.drew {gl : Nat} (w : World) : Lx gl w w.drew := ⟨rfl, rfl, rfl, Nat.le_refl _, fun _ _ _ => rfl⟩
theorem Lx.set {gl : Nat} (w : World) (i : Nat) (v : Value) : Lx gl w (w.setCell ⟨gl, i, none⟩ v) :=
  Lx.trans (Lx.refl gl w) ⟨rfl, rfl, rfl, by simp, fun k hk hn => Below.heap_setCell _ _ _ _ (by simpa using hn)⟩
theorem Lx.below {gl : Nat} {w w' : World} (h : Lx gl w w') (hg : gl ≤ w.heap.size) : Below gl w w' := ⟨h.os, h.tape, h.output, h.size, fun k hk => h.block k (by omega) (by omega)⟩
theorem Lx.row {gl : Nat} {w w' : World} (h : Lx gl w w') {b n : Nat} {t : TypeId} {F : Nat → Value} (hr : w.rowIs b t n F) (hn : b ≠ gl) : w'.rowIs b t n F := hr.of_block (h.block b hr.lt hn)
theorem LexAt.of_below {gl : Nat} {L : List UInt8} {p : Nat} {f : Fl} {w w' : World} (h : LexAt gl L p f w) (hb : Below w.heap.size w w') : LexAt gl L p f w' := rowIs_below h hb h.lt

theorem tx_at (L : List UInt8) (r : Nat) (h : r < (tx L).size) : ((tx L)[r]'h).toNat = chAt L r := by
  have h2 : r < L.length := h
  unfold chAt
  rw [List.getD_eq_getElem?_getD, List.getElem?_eq_getElem h2, Option.getD_some]
  rfl
set_option maxRecDepth 100000 in
theorem readChar_raw (gl : Nat) (L : List UInt8) (P c : Int) (r : Nat) (f : Fl) (hL : L.length ≤ 1000000) (hr : r ≤ 2000000) (w : World) (h : w.rowIs gl 58 8 (rawF L P (r : Int) c f)) :
    Calls Tryd.prog 20 #[.pointer (some ⟨gl, 0, none⟩)] w fun e w' => e = .returned (.tuple #[]) ∧ LexAt gl L r f w' ∧ Lx gl w w' := by
  have c0 : w.cell? ⟨gl, 0, none⟩ = some (.string (tx L)) := h.cell (i := 0) (by omega)
  have c1 : w.cell? ⟨gl, 1, none⟩ = some (.int .i64 P) := h.cell (i := 1) (by omega)
  have c2 : w.cell? ⟨gl, 2, none⟩ = some (.int .i64 (r : Int)) := h.cell (i := 2) (by omega)
  have c3 : w.cell? ⟨gl, 3, none⟩ = some (.int .u8 c) := h.cell (i := 3) (by omega)
  have f1 := h.frozen 1
  have f2 := h.frozen 2
  have f3 := h.frozen 3
  have e1 : IntKind.i64.wrap ((r : Int) + 1) = (r : Int) + 1 := IntWalk.i64_in _ (by omega)
  have hfin : ∀ (wx : World), wx.rowIs gl 58 8 (rawF L P (r : Int) (chAt L r : Nat) f) → LexAt gl L r f ((wx.setCell ⟨gl, 1, none⟩ (.int .i64 (r : Int))).setCell ⟨gl, 2, none⟩ (.int .i64 ((r : Int) + 1))) := fun wx hx => by
    refine ((hx.set 1 _).set 2 _).congr fun j hj => ?_
    have : j = 0 ∨ j = 1 ∨ j = 2 ∨ j = 3 ∨ j = 4 ∨ j = 5 ∨ j = 6 ∨ j = 7 := by omega
    rcases this with rfl | rfl | rfl | rfl | rfl | rfl | rfl | rfl <;> rfl
  have hput : ∀ (v : Int) (wx : World), v = (chAt L r : Nat) → wx.rowIs gl 58 8 (rawF L P (r : Int) c f) → (wx.setCell ⟨gl, 3, none⟩ (.int .u8 v)).rowIs gl 58 8 (rawF L P (r : Int) (chAt L r : Nat) f) := fun v wx hv hx => by
    refine (hx.set 3 _).congr fun j hj => ?_
    subst hv
    have : j = 0 ∨ j = 1 ∨ j = 2 ∨ j = 3 ∨ j = 4 ∨ j = 5 ∨ j = 6 ∨ j = 7 := by omega
    rcases this with rfl | rfl | rfl | rfl | rfl | rfl | rfl | rfl <;> rfl
  replace hput := Lib.hid hput
  replace hfin := Lib.hid hfin
  by_cases hlt : r < L.length
  · have hd : decide ((L.length : Int) ≤ (r : Int)) = false := decide_eq_false (by omega)
    have hd2 : decide ((r : Int) ≥ (L.length : Int)) = false := hd
    have hrl : (r : Int) < (L.length : Int) := by omega
    go_enter Tryd.func20, Tryd.ntmps20
    go_upto_region 0 with (fail)
    go_quiet (fail)
    go_upto_region 2 with (fail)
    refine wp_region_held_drew (S := fun v => v.cell? ⟨gl, 0, none⟩ = some (.string (tx L)) ∧ v.cell? ⟨gl, 2, none⟩ = some (.int .i64 (r : Int))) (by kernel_rfl) ⟨c0, c2⟩ (fun hHeld => ?_)
    (refine wpAnyH_take (i := 0) (v := ?_) rfl (by kernel_rfl) (by kernel_rfl) (by kernel_rfl) (fun _ _ _ h => h) (Or.inl ⟨by rfl, ?_⟩) (by assumption) ?_; rotate_left; · (intro w hSw; go_simp; try with_reducible rfl)); try simp only [List.getElem_toArray, List.getElem_cons_succ, List.getElem_cons_zero, Act.put, List.setIfInBounds_toArray, List.set_cons_zero, List.set_cons_succ]
    (refine wpAnyH_take (i := 1) (v := ?_) rfl (by kernel_rfl) (by kernel_rfl) (by kernel_rfl) (fun _ _ _ h => h) (Or.inl ⟨by rfl, ?_⟩) (by assumption) ?_; rotate_left; · (intro w hSw; go_simp; try with_reducible rfl)); try simp only [List.getElem_toArray, List.getElem_cons_succ, List.getElem_cons_zero, Act.put, List.setIfInBounds_toArray, List.set_cons_zero, List.set_cons_succ]
    (refine wpAnyH_take (i := 2) (v := ?_) rfl (by kernel_rfl) (by kernel_rfl) (by kernel_rfl) (fun _ _ _ h => h) (Or.inl ⟨by rfl, ?_⟩) (by assumption) ?_; rotate_left; · (intro w hSw; go_simp; try with_reducible rfl)); try simp only [List.getElem_toArray, List.getElem_cons_succ, List.getElem_cons_zero, Act.put, List.setIfInBounds_toArray, List.set_cons_zero, List.set_cons_succ]
    (refine wpAnyH_take (i := 3) (v := ?_) rfl (by kernel_rfl) (by kernel_rfl) (by kernel_rfl) (fun _ _ _ h => h) (Or.inl ⟨by rfl, ?_⟩) (by assumption) ?_; rotate_left; · (intro w hSw; go_simp; try with_reducible rfl)); try simp only [List.getElem_toArray, List.getElem_cons_succ, List.getElem_cons_zero, Act.put, List.setIfInBounds_toArray, List.set_cons_zero, List.set_cons_succ]
    (refine wpAnyH_take (i := 4) (v := ?_) rfl (by kernel_rfl) (by kernel_rfl) (by kernel_rfl) (fun _ _ _ h => h) (Or.inl ⟨by rfl, ?_⟩) (by assumption) ?_; rotate_left; · (intro w hSw; go_simp; try with_reducible rfl)); try simp only [List.getElem_toArray, List.getElem_cons_succ, List.getElem_cons_zero, Act.put, List.setIfInBounds_toArray, List.set_cons_zero, List.set_cons_succ]
    (refine wpAnyH_take (i := 5) (v := ?_) rfl (by kernel_rfl) (by kernel_rfl) (by kernel_rfl) (fun _ _ _ h => h) (Or.inl ⟨by rfl, ?_⟩) (by assumption) ?_; rotate_left; · (intro w hSw; go_simp; try with_reducible rfl)); try simp only [List.getElem_toArray, List.getElem_cons_succ, List.getElem_cons_zero, Act.put, List.setIfInBounds_toArray, List.set_cons_zero, List.set_cons_succ]
    (refine wpAnyH_take (i := 6) (v := ?_) rfl (by kernel_rfl) (by kernel_rfl) (by kernel_rfl) (fun _ _ _ h => h) (Or.inl ⟨by rfl, ?_⟩) (by assumption) ?_; rotate_left; · (intro w hSw; go_simp; try with_reducible rfl)); try simp only [List.getElem_toArray, List.getElem_cons_succ, List.getElem_cons_zero, Act.put, List.setIfInBounds_toArray, List.set_cons_zero, List.set_cons_succ]
    (refine wpAnyH_take (i := 7) (v := ?_) rfl (by kernel_rfl) (by kernel_rfl) (by kernel_rfl) (fun _ _ _ h => h) (Or.inl ⟨by rfl, ?_⟩) (by assumption) ?_; rotate_left; · (intro w hSw; go_simp; try with_reducible rfl)); try simp only [List.getElem_toArray, List.getElem_cons_succ, List.getElem_cons_zero, Act.put, List.setIfInBounds_toArray, List.set_cons_zero, List.set_cons_succ]
    (refine wpAnyH_take (i := 8) (v := ?_) rfl (by kernel_rfl) (by kernel_rfl) (by kernel_rfl) (fun _ _ _ h => h) (Or.inl ⟨by rfl, ?_⟩) (by assumption) ?_; rotate_left; · (intro w hSw; go_simp; try with_reducible rfl)); try simp only [List.getElem_toArray, List.getElem_cons_succ, List.getElem_cons_zero, Act.put, List.setIfInBounds_toArray, List.set_cons_zero, List.set_cons_succ]
    (refine wpAnyH_take (i := 9) (v := ?_) rfl (by kernel_rfl) (by kernel_rfl) (by kernel_rfl) (fun _ _ _ h => h) (Or.inl ⟨by rfl, ?_⟩) (by assumption) ?_; rotate_left; · (intro w hSw; go_simp; try with_reducible rfl)); try simp only [List.getElem_toArray, List.getElem_cons_succ, List.getElem_cons_zero, Act.put, List.setIfInBounds_toArray, List.set_cons_zero, List.set_cons_succ]
    (refine wpAnyH_take (i := 10) (v := ?_) rfl (by kernel_rfl) (by kernel_rfl) (by kernel_rfl) (fun _ _ _ h => h) (Or.inl ⟨by rfl, ?_⟩) (by assumption) ?_; rotate_left; · (intro w hSw; go_simp; try with_reducible rfl)); try simp only [List.getElem_toArray, List.getElem_cons_succ, List.getElem_cons_zero, Act.put, List.setIfInBounds_toArray, List.set_cons_zero, List.set_cons_succ]
    (refine wpAnyH_take (i := 11) (v := ?_) rfl (by kernel_rfl) (by kernel_rfl) (by kernel_rfl) (fun _ _ _ h => h) (Or.inl ⟨by rfl, ?_⟩) (by assumption) ?_; rotate_left; · (intro w hSw; go_simp; try with_reducible rfl)); try simp only [List.getElem_toArray, List.getElem_cons_succ, List.getElem_cons_zero, Act.put, List.setIfInBounds_toArray, List.set_cons_zero, List.set_cons_succ]
    refine wpAnyH_ready (rs := [12]) (by kernel_rfl) (by simp) ?_; refine AllReadyH.cons rfl (fun K hK => ?_) AllReadyH.nil; go_simp
    have hsz : r < (tx L).size := hlt
    have hv : ((((tx L)[r]'hsz).toNat : Nat) : Int) = (chAt L r : Nat) := by rw [tx_at L r hsz]
    have hx1 := hput.out _ (w.drewN (nq + 1)) hv (h.of_block rfl)
    have hl1 : Lx gl w ((w.drewN (nq + 1)).setCell ⟨gl, 3, none⟩ (.int .u8 ((((tx L)[r]'hsz).toNat : Nat) : Int))) := (Lx.drewN w (nq + 1)).trans (Lx.set _ 3 _)
    refine hK.out _ _ (⟨hx1.cell (i := 0) (by omega), hx1.cell (i := 2) (by omega)⟩) (fun hHeld => ?_); clear hK K; try simp only [List.getElem_toArray, List.getElem_cons_succ, List.getElem_cons_zero, Act.put, List.setIfInBounds_toArray, List.set_cons_zero, List.set_cons_succ]
    refine wpAnyH_done (by kernel_rfl) ?_ _
    clear hv hHeld
    generalize (w.drewN (nq + 1)).setCell ⟨gl, 3, none⟩ (.int .u8 ((((tx L)[r]'hsz).toNat : Nat) : Int)) = w1 at *
    have d1 : w1.cell? ⟨gl, 1, none⟩ = some (.int .i64 P) := hx1.cell (i := 1) (by omega)
    have d2 : w1.cell? ⟨gl, 2, none⟩ = some (.int .i64 (r : Int)) := hx1.cell (i := 2) (by omega)
    have g1 := hx1.frozen 1
    have g2 := hx1.frozen 2
    have hA := Lib.hid (hfin.out w1 hx1)
    have hl2 := Lib.hid (hl1.trans ((Lx.set w1 1 (.int .i64 (r : Int))).trans (Lx.set _ 2 (.int .i64 ((r : Int) + 1)))))
    clear h hx1 hfin c0 c1 c2 c3 f1 f2 f3 hl1 hput
    go_wp2_with (fail)
    first | go_end0 | refine bodyPost_ret (results_none rfl _ _ _) rfl ?_
    exact ⟨rfl, hA.out, hl2.out⟩
  · have hd : decide ((L.length : Int) ≤ (r : Int)) = true := decide_eq_true (by omega)
    have hd2 : decide ((r : Int) ≥ (L.length : Int)) = true := hd
    have hch : (0 : Int) = (chAt L r : Nat) := by rw [chAt_end L r (by omega)]; rfl
    go_enter Tryd.func20, Tryd.ntmps20
    go_upto_region 0 with (fail)
    go_quiet (fail)
    have hA := Lib.hid (hfin.out _ (hput.out 0 (w.drewN nq) hch (h.of_block rfl)))
    clear hch
    go_wp2_with (fail)
    first | go_end0 | refine bodyPost_ret (results_none rfl _ _ _) rfl ?_
    exact ⟨rfl, hA.out, (Lx.drewN w nq).trans (((Lx.set _ 3 _).trans (Lx.set _ 1 _)).trans (Lx.set _ 2 _))⟩
end Go.Proofs.YtlcdhahnngfjhaaDoor

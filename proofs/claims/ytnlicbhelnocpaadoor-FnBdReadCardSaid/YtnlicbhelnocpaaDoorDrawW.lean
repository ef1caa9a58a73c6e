/- A board's picture: the signs of pieces, and the contracts of drawForWhite and drawForBlack. -/
import Derived.Test.YtnlicbhelnocpaaDoorEqArr
import Derived.Test.YtnlicbhelnocpaaDoorKeep
namespace Go.Proofs.YtnlicbhelnocpaaDoor
open Go.ChangeShapes Go.WideShapes Go.ChangeAt Go.RowKit Plain
set_option maxHeartbeats 1000000
set_option linter.unusedVariables false
set_option linter.unusedSimpArgs false

/-- A text out of its bytes. -/
def tx (l : List UInt8) : ByteArray := ⟨l.toArray⟩
theorem tx_app (a b : List UInt8) : tx a ++ tx b = tx (a ++ b) := by
  unfold tx
  apply ByteArray.ext
  simp
theorem tx_mk (l : List UInt8) : ByteArray.mk l.toArray = tx l := rfl
theorem tx_size (l : List UInt8) : (tx l).size = l.length := by simp [tx, ByteArray.size]
theorem str_app {a b c : List UInt8} (h : a ++ b = c) : Value.string (tx a ++ tx b) = .string (tx c) := by rw [tx_app, h]

/-- The signs of pieces, plain and dark. -/
def sg (dark : Bool) (x : Int) : List UInt8 := [226, 153, UInt8.ofNat (if dark then (if x ≤ 6 then 153 + x.toNat else 141 + x.toNat) else 147 + x.toNat)]
theorem sg_len (dark : Bool) (x : Int) : (sg dark x).length = 3 := rfl
structure TabsU (w : World) : Prop where
  plain : ∃ b o, w.cell? ⟨2, 0, none⟩ = some (.slice (some ⟨b, o, none⟩) 13 13) ∧ ∀ i, 1 ≤ i → i ≤ 12 → w.cell? ⟨b, o + i, none⟩ = some (.string (tx (sg false (i : Nat))))
  dark : ∃ b o, w.cell? ⟨1, 0, none⟩ = some (.slice (some ⟨b, o, none⟩) 13 13) ∧ ∀ i, 1 ≤ i → i ≤ 12 → w.cell? ⟨b, o + i, none⟩ = some (.string (tx (sg true (i : Nat))))
theorem TabsU.below {w w' : World} (h : TabsU w) (hb : Below w.heap.size w w') : TabsU w' :=
  ⟨let ⟨b, o, h1, h2⟩ := h.plain; ⟨b, o, cell_below hb h1, fun i h0 hi => cell_below hb (h2 i h0 hi)⟩, let ⟨b, o, h1, h2⟩ := h.dark; ⟨b, o, cell_below hb h1, fun i h0 hi => cell_below hb (h2 i h0 hi)⟩⟩
theorem string_any (p : Int) (h0 : 1 ≤ p) (h1 : p ≤ 12) (w : World) (hT : TabsU w) :
    Calls Tryd.prog 40 #[.int .i8 p] w fun e w' => e = .returned (.string (tx (sg false p))) ∧ w = w' := by
  obtain ⟨k, rfl⟩ : ∃ k : Nat, p = k := ⟨p.toNat, by omega⟩
  obtain ⟨b, o, g1, g2⟩ := hT.plain
  have hc := g2 k (by omega) (by omega)
  clear g2 hT
  go_enter Tryd.func40, Tryd.ntmps40
  go_wp2
  go_ret
  exact ⟨rfl, rfl⟩
theorem darkString_any (p : Int) (h0 : 1 ≤ p) (h1 : p ≤ 12) (w : World) (hT : TabsU w) :
    Calls Tryd.prog 39 #[.int .i8 p] w fun e w' => e = .returned (.string (tx (sg true p))) ∧ w = w' := by
  obtain ⟨k, rfl⟩ : ∃ k : Nat, p = k := ⟨p.toNat, by omega⟩
  obtain ⟨b, o, g1, g2⟩ := hT.dark
  have hc := g2 k (by omega) (by omega)
  clear g2 hT
  go_enter Tryd.func39, Tryd.ntmps39
  go_wp2
  go_ret
  exact ⟨rfl, rfl⟩
/-- A byte out of a number (a name of its own: the walk's simp would part the sum). -/
def byteOf (n : Int) : UInt8 := UInt8.ofNat n.toNat
def rankS (r : Int) : List UInt8 := [byteOf (49 + r)]
theorem rankS_len (r : Int) : (rankS r).length = 1 := rfl
theorem rankStr_any (f : Int) (h0 : 0 ≤ f) (h1 : f < 8) (w : World) :
    Calls Tryd.prog 86 #[.int .i8 f] w fun e w' => e = .returned (.string (tx (rankS f))) ∧ w = w' := by
  have h : f = 0 ∨ f = 1 ∨ f = 2 ∨ f = 3 ∨ f = 4 ∨ f = 5 ∨ f = 6 ∨ f = 7 := by omega
  rcases h with rfl | rfl | rfl | rfl | rfl | rfl | rfl | rfl
  all_goals
    go_enter Tryd.func86, Tryd.ntmps86
    go_wp2
    go_ret
    exact ⟨rfl, rfl⟩
theorem newSquare_any (f r : Int) (h0 : 0 ≤ f) (h1 : f < 8) (h2 : 0 ≤ r) (h3 : r < 8) (w : World) :
    Calls Tryd.prog 87 #[.int .i8 f, .int .i8 r] w fun e w' => e = .returned (.int .i8 (8 * r + f)) ∧ w = w' := by
  go_enter Tryd.func87, Tryd.ntmps87
  go_wp2
  go_ret
  refine ⟨ret_int ?_, rfl⟩
  omega

/-! The picture. -/
def cellTx (dark : Bool) (x : Int) : List UInt8 := (if x = 0 then [45] else sg dark x) ++ [32]
def rowTx (dark : Bool) (c : Nat → Int) : Nat → List UInt8
  | 0 => []
  | k + 1 => rowTx dark c k ++ cellTx dark (c k)
def turn (black : Bool) (k : Nat) : Nat := if black then 7 - k else k
def lineTx (black dark : Bool) (bd : Nat → Int) (k : Nat) : List UInt8 := rankS (turn (!black) k : Nat) ++ rowTx dark (fun j => bd (8 * turn (!black) k + turn black j)) 8 ++ [10]
def headTx (black : Bool) : Nat → List UInt8
  | 0 => [10]
  | k + 1 => headTx black k ++ [32, byteOf (65 + (turn black k : Nat))]
def picTx (black dark : Bool) (bd : Nat → Int) : Nat → List UInt8
  | 0 => headTx black 8 ++ [10]
  | k + 1 => picTx black dark bd k ++ lineTx black dark bd k
theorem rowTx_len (dark : Bool) (c : Nat → Int) : ∀ k, (rowTx dark c k).length ≤ 4 * k
  | 0 => Nat.le_refl _
  | k + 1 => by
    have := rowTx_len dark c k
    have h : (cellTx dark (c k)).length ≤ 4 := by unfold cellTx; split <;> simp [sg]
    simp only [rowTx, List.length_append]
    omega
theorem picTx_len (black dark : Bool) (bd : Nat → Int) : ∀ k, (picTx black dark bd k).length ≤ 18 + 34 * k
  | 0 => by cases black <;> simp [picTx, headTx]
  | k + 1 => by
    have := picTx_len black dark bd k
    have h := rowTx_len dark (fun j => bd (8 * turn (!black) k + turn black j)) 8
    simp only [picTx, lineTx, List.length_append, rankS_len, List.length_cons, List.length_nil]
    omega
theorem picTx_succ (black dark : Bool) (bd : Nat → Int) (k : Nat) : picTx black dark bd (k + 1) = picTx black dark bd k ++ lineTx black dark bd k := rfl
theorem rowTx_succ (dark : Bool) (c : Nat → Int) (k : Nat) : rowTx dark c (k + 1) = rowTx dark c k ++ cellTx dark (c k) := rfl

attribute [local go_sem] tx_mk tx_app tx_size sg_len rankS_len List.length_append List.length_cons List.length_nil
set_option maxRecDepth 100000 in
theorem drawWhite_any (g : Nat) (f : Nat → Value) (v : Nat → Int) (hv : ∀ i, i < 64 → 0 ≤ v i ∧ v i ≤ 12) (dark : Bool) (w : World) (h : w.rowIs g tBoard 17 f) (hf : ∀ j, j < 12 → f j = .int .u64 (tn (bbsOf v j))) (hT : TabsP w) (hU : TabsU w) :
    Calls Tryd.prog 64 #[.pointer (some ⟨g, 0, none⟩), .bool dark] w fun e w' => e = .returned (.string (tx (picTx false dark v 8))) ∧ w = w' := by
  have hpiece := Lib.hid fun (s : Int) (h0 : 0 ≤ s) (h1 : s < 64) => piece_any g f (bbsOf v) w h hf hT s h0 h1
  have hst := Lib.hid fun (p : Int) h0 h1 => string_any p h0 h1 w hU
  have hds := Lib.hid fun (p : Int) h0 h1 => darkString_any p h0 h1 w hU
  clear h hf hT hU
  go_enter Tryd.func64, Tryd.ntmps64
  go_wp2
  go_loop [5, 6] (fun s r => ∃ k : Nat, k ≤ 8 ∧ r = .int .i64 (7 - (k : Int)) ∧ s = .string (tx (picTx false dark v k))) (fun _ r => (intOf r + 1).toNat)
  case atStart => exact ⟨0, by omega, rfl, rfl⟩
  case round =>
    obtain ⟨k, hk, rfl, rfl⟩ := hrel
    by_cases hlt : k < 8
    · have lp := picTx_len false dark v k
      have e1 : IntKind.i8.wrap (7 - (k : Int)) = 7 - (k : Int) := IntWalk.i8_in _ (by omega)
      go_wp2_with (go_at_call 86; refine (rankStr_any _ (by omega) (by omega) _).mono ?_; rintro e w' ⟨rfl, rfl⟩)
      have hL : (picTx false dark v k ++ rankS (7 - (k : Int))).length ≤ 400 := by simp only [List.length_append, rankS_len]; omega
      have hpic : picTx false dark v (k + 1) = (picTx false dark v k ++ rankS (7 - (k : Int))) ++ (rowTx dark (fun j => v (8 * (7 - k) + j)) 8 ++ [10]) := by
        have e : ((turn (!false) k : Nat) : Int) = 7 - (k : Int) := by unfold turn; simp; omega
        rw [picTx_succ, lineTx, e]
        simp only [List.append_assoc]
        rfl
      replace hpic := Lib.hid hpic
      generalize picTx false dark v k ++ rankS (7 - (k : Int)) = L at *
      clear lp
      go_loop [5, 18] (fun s i => ∃ j : Nat, j ≤ 8 ∧ i = .int .i64 j ∧ s = .string (tx (L ++ rowTx dark (fun j => v (8 * (7 - k) + j)) j))) (fun _ i => 8 - (intOf i).toNat)
      case atStart => exact ⟨0, by omega, rfl, by simp [rowTx]⟩
      case round =>
        obtain ⟨j, hj, rfl, rfl⟩ := hrel
        have lr := rowTx_len dark (fun j => v (8 * (7 - k) + j)) j
        by_cases hlt2 : j < 8
        · have hn : 8 * (7 - k) + j < 64 := by omega
          have hvn := hv (8 * (7 - k) + j) hn
          have hcall := hpiece.out (8 * (7 - (k : Int)) + (j : Int)) (by omega) (by omega)
          rw [show (8 * (7 - (k : Int)) + (j : Int)).toNat = 8 * (7 - k) + j by omega, pieceAt_of v _ hn hvn.1 hvn.2] at hcall
          have hsucc := rowTx_succ dark (fun j => v (8 * (7 - k) + j)) j
          have hcell : cellTx dark (v (8 * (7 - k) + j)) = (if v (8 * (7 - k) + j) = 0 then [45] else sg dark (v (8 * (7 - k) + j))) ++ [32] := rfl
          have e2 : IntKind.i8.wrap (j : Int) = (j : Int) := IntWalk.i8_in _ (by omega)
          generalize v (8 * (7 - k) + j) = x at *
          replace hcall := Lib.hid hcall
          replace hsucc := Lib.hid hsucc
          by_cases hx : x = 0
          · subst hx
            rw [if_pos rfl] at hcell
            replace hcell := Lib.hid hcell
            go_wp2_with (first
              | (go_at_call 87; refine (newSquare_any _ _ (by omega) (by omega) (by omega) (by omega) _).mono ?_; rintro e w' ⟨rfl, rfl⟩)
              | (go_at_call 60; refine hcall.out.mono ?_; rintro e w' ⟨rfl, rfl⟩))
            go_round
            case rel => exact ⟨j + 1, by omega, by go_num, by rw [hsucc.out, hcell.out]; (try simp only [List.append_assoc]); try rfl⟩
            case measure => simp [intOf]; omega
          · have hne : (x == 0) = false := by simpa using hx
            rw [if_neg hx] at hcell
            replace hcell := Lib.hid hcell
            have hx1 : 1 ≤ x := by omega
            have hst' := Lib.hid (hst.out x hx1 hvn.2)
            have hds' := Lib.hid (hds.out x hx1 hvn.2)
            clear hx
            cases dark
            all_goals
              go_wp2_with (first
                | (go_at_call 87; refine (newSquare_any _ _ (by omega) (by omega) (by omega) (by omega) _).mono ?_; rintro e w' ⟨rfl, rfl⟩)
                | (go_at_call 60; refine hcall.out.mono ?_; rintro e w' ⟨rfl, rfl⟩)
                | (go_at_call 40; refine hst'.out.mono ?_; rintro e w' ⟨rfl, rfl⟩)
                | (go_at_call 39; refine hds'.out.mono ?_; rintro e w' ⟨rfl, rfl⟩))
              go_round
              case rel => exact ⟨j + 1, by omega, by go_num, by rw [hsucc.out, hcell.out]; (try simp only [List.append_assoc]); try rfl⟩
              case measure => simp [intOf]; omega
        · obtain rfl : j = 8 := by omega
          go_wp2
          go_round
          case rel => exact ⟨k + 1, by omega, by go_num, by rw [hpic.out]; (try simp only [List.append_assoc]); try rfl⟩
          case measure => simp [intOf]; omega
    · obtain rfl : k = 8 := by omega
      go_wp2
      go_ret
      exact ⟨rfl, rfl⟩
set_option maxRecDepth 100000 in
theorem drawBlack_any (g : Nat) (f : Nat → Value) (v : Nat → Int) (hv : ∀ i, i < 64 → 0 ≤ v i ∧ v i ≤ 12) (dark : Bool) (w : World) (h : w.rowIs g tBoard 17 f) (hf : ∀ j, j < 12 → f j = .int .u64 (tn (bbsOf v j))) (hT : TabsP w) (hU : TabsU w) :
    Calls Tryd.prog 63 #[.pointer (some ⟨g, 0, none⟩), .bool dark] w fun e w' => e = .returned (.string (tx (picTx true dark v 8))) ∧ w = w' := by
  have hpiece := Lib.hid fun (s : Int) (h0 : 0 ≤ s) (h1 : s < 64) => piece_any g f (bbsOf v) w h hf hT s h0 h1
  have hst := Lib.hid fun (p : Int) h0 h1 => string_any p h0 h1 w hU
  have hds := Lib.hid fun (p : Int) h0 h1 => darkString_any p h0 h1 w hU
  clear h hf hT hU
  go_enter Tryd.func63, Tryd.ntmps63
  go_wp2
  go_loop [5, 6] (fun s r => ∃ k : Nat, k ≤ 8 ∧ r = .int .i64 (k : Int) ∧ s = .string (tx (picTx true dark v k))) (fun _ r => 8 - (intOf r).toNat)
  case atStart => exact ⟨0, by omega, rfl, rfl⟩
  case round =>
    obtain ⟨k, hk, rfl, rfl⟩ := hrel
    by_cases hlt : k < 8
    · have lp := picTx_len true dark v k
      have e1 : IntKind.i8.wrap (k : Int) = (k : Int) := IntWalk.i8_in _ (by omega)
      go_wp2_with (go_at_call 86; refine (rankStr_any _ (by omega) (by omega) _).mono ?_; rintro e w' ⟨rfl, rfl⟩)
      have hL : (picTx true dark v k ++ rankS (k : Int)).length ≤ 400 := by simp only [List.length_append, rankS_len]; omega
      have hpic : picTx true dark v (k + 1) = (picTx true dark v k ++ rankS (k : Int)) ++ (rowTx dark (fun j => v (8 * k + (7 - j))) 8 ++ [10]) := by
        have e : ((turn (!true) k : Nat) : Int) = (k : Int) := by unfold turn; simp
        rw [picTx_succ, lineTx, e]
        simp only [List.append_assoc]
        rfl
      replace hpic := Lib.hid hpic
      generalize picTx true dark v k ++ rankS (k : Int) = L at *
      clear lp
      go_loop [5, 7] (fun s i => ∃ j : Nat, j ≤ 8 ∧ i = .int .i64 (7 - (j : Int)) ∧ s = .string (tx (L ++ rowTx dark (fun j => v (8 * k + (7 - j))) j))) (fun _ i => (intOf i + 1).toNat)
      case atStart => exact ⟨0, by omega, rfl, by simp [rowTx]⟩
      case round =>
        obtain ⟨j, hj, rfl, rfl⟩ := hrel
        have lr := rowTx_len dark (fun j => v (8 * k + (7 - j))) j
        by_cases hlt2 : j < 8
        · have hn : 8 * k + (7 - j) < 64 := by omega
          have hvn := hv (8 * k + (7 - j)) hn
          have hcall := hpiece.out (8 * (k : Int) + (7 - (j : Int))) (by omega) (by omega)
          rw [show (8 * (k : Int) + (7 - (j : Int))).toNat = 8 * k + (7 - j) by omega, pieceAt_of v _ hn hvn.1 hvn.2] at hcall
          have hsucc := rowTx_succ dark (fun j => v (8 * k + (7 - j))) j
          have hcell : cellTx dark (v (8 * k + (7 - j))) = (if v (8 * k + (7 - j)) = 0 then [45] else sg dark (v (8 * k + (7 - j)))) ++ [32] := rfl
          have e2 : IntKind.i8.wrap (7 - (j : Int)) = 7 - (j : Int) := IntWalk.i8_in _ (by omega)
          generalize v (8 * k + (7 - j)) = x at *
          replace hcall := Lib.hid hcall
          replace hsucc := Lib.hid hsucc
          by_cases hx : x = 0
          · subst hx
            rw [if_pos rfl] at hcell
            replace hcell := Lib.hid hcell
            go_wp2_with (first
              | (go_at_call 87; refine (newSquare_any _ _ (by omega) (by omega) (by omega) (by omega) _).mono ?_; rintro e w' ⟨rfl, rfl⟩)
              | (go_at_call 60; refine hcall.out.mono ?_; rintro e w' ⟨rfl, rfl⟩))
            go_round
            case rel => exact ⟨j + 1, by omega, by go_num, by rw [hsucc.out, hcell.out]; (try simp only [List.append_assoc]); try rfl⟩
            case measure => simp [intOf]; omega
          · have hne : (x == 0) = false := by simpa using hx
            rw [if_neg hx] at hcell
            replace hcell := Lib.hid hcell
            have hx1 : 1 ≤ x := by omega
            have hst' := Lib.hid (hst.out x hx1 hvn.2)
            have hds' := Lib.hid (hds.out x hx1 hvn.2)
            clear hx
            cases dark
            all_goals
              go_wp2_with (first
                | (go_at_call 87; refine (newSquare_any _ _ (by omega) (by omega) (by omega) (by omega) _).mono ?_; rintro e w' ⟨rfl, rfl⟩)
                | (go_at_call 60; refine hcall.out.mono ?_; rintro e w' ⟨rfl, rfl⟩)
                | (go_at_call 40; refine hst'.out.mono ?_; rintro e w' ⟨rfl, rfl⟩)
                | (go_at_call 39; refine hds'.out.mono ?_; rintro e w' ⟨rfl, rfl⟩))
              go_round
              case rel => exact ⟨j + 1, by omega, by go_num, by rw [hsucc.out, hcell.out]; (try simp only [List.append_assoc]); try rfl⟩
              case measure => simp [intOf]; omega
        · obtain rfl : j = 8 := by omega
          go_wp2
          go_round
          case rel => exact ⟨k + 1, by omega, by go_num, by rw [hpic.out]; (try simp only [List.append_assoc]); try rfl⟩
          case measure => simp [intOf]; omega
    · obtain rfl : k = 8 := by omega
      go_wp2
      go_ret
      exact ⟨rfl, rfl⟩
theorem draw2_any (g : Nat) (f : Nat → Value) (v : Nat → Int) (hv : ∀ i, i < 64 → 0 ≤ v i ∧ v i ≤ 12) (black dark : Bool) (w : World) (h : w.rowIs g tBoard 17 f) (hf : ∀ j, j < 12 → f j = .int .u64 (tn (bbsOf v j))) (hT : TabsP w) (hU : TabsU w) :
    Calls Tryd.prog 42 #[.pointer (some ⟨g, 0, none⟩), .int .i8 (if black then 2 else 1), .bool dark] w fun e w' => e = .returned (.string (tx (picTx black dark v 8))) ∧ w = w' := by
  have h1 := Lib.hid (drawWhite_any g f v hv dark w h hf hT hU)
  have h2 := Lib.hid (drawBlack_any g f v hv dark w h hf hT hU)
  clear h hf hT hU hv
  cases black
  · rw [if_neg (by simp)]
    go_enter Tryd.func42, Tryd.ntmps42
    go_wp2_with (go_at_call 64; refine h1.out.mono ?_; rintro e w' ⟨rfl, rfl⟩)
    go_ret
    exact ⟨rfl, rfl⟩
  · rw [if_pos rfl]
    go_enter Tryd.func42, Tryd.ntmps42
    go_wp2_with (go_at_call 63; refine h2.out.mono ?_; rintro e w' ⟨rfl, rfl⟩)
    go_ret
    exact ⟨rfl, rfl⟩
end Go.Proofs.YtnlicbhelnocpaaDoor

/- Where a piece may go, the program's side: chess.pawnMoves, chess.bbForPossibleMoves. -/
import Derived.Test.YthdbgjhonnogpaaDoorCkC
namespace Go.Proofs.YthdbgjhonnogpaaDoor
open Go.ChangeShapes Go.WideShapes Go.ChangeAt Go.RowKit Plain
set_option maxHeartbeats 2000000
set_option linter.unusedVariables false
set_option linter.unusedSimpArgs false
section
attribute [local go_sem] bv_and bv_or bv_xor bv_sub bv_andc bv_orc bv_not bv_shl7 bv_shl8 bv_shl9 bv_shr7 bv_shr8 bv_shr9

/-- A square behind a pawn, as a bit. -/
def epB (ep : Int) : BitVec 64 := if ep = -1 then 0#64 else bitB ep.toNat
/-- A white pawn's squares. -/
def pawnUp (b E S P : BitVec 64) : BitVec 64 :=
  (((((b &&& 18374403900871474942#64) &&& 18446744073709551360#64) >>> 9 &&& (S ||| P)) ||| (((b &&& 9187201950435737471#64) &&& 18446744073709551360#64) >>> 7 &&& (S ||| P))) ||| ((b &&& 18446744073709551360#64) >>> 8 &&& E)) ||| (((((b &&& 18446744073709551360#64) >>> 8 &&& E) &&& 280375465082880#64) >>> 8) &&& E)
/-- A black pawn's squares. -/
def pawnDn (b E S P : BitVec 64) : BitVec 64 :=
  (((((b &&& 18374403900871474942#64) &&& 72057594037927935#64) <<< 7 &&& (S ||| P)) ||| (((b &&& 9187201950435737471#64) &&& 72057594037927935#64) <<< 9 &&& (S ||| P))) ||| ((b &&& 72057594037927935#64) <<< 8 &&& E)) ||| (((((b &&& 72057594037927935#64) <<< 8 &&& E) &&& 16711680#64) <<< 8) &&& E)
def pawnX (t : Int) (b E W B P : BitVec 64) : BitVec 64 := if t = 1 then pawnUp b E B P else pawnDn b E W P
theorem bv_or0 (x : BitVec 64) : bits .or .u64 (tn x) 0 = tn (x ||| 0#64) := bv_or x 0#64
attribute [local go_sem] bv_or0
set_option maxRecDepth 100000 in
theorem pawnMoves_any (gp gb : Nat) (bb : Nat → BitVec 64) (wk bk : Int) (t ep : Int) (ht : t = 1 ∨ t = 2) (hep : -1 ≤ ep ∧ ep < 64) (s : Nat) (hs : s < 64) (w : World)
    (hb : w.rowIs gb tBoard 17 (cellB bb wk bk)) (hp0 : w.cell? ⟨gp, 0, none⟩ = some (.pointer (some ⟨gb, 0, none⟩))) (hp5 : w.cell? ⟨gp, 5, none⟩ = some (.int .i8 t)) (hp6 : w.cell? ⟨gp, 6, none⟩ = some (.int .i8 ep)) :
    Calls Tryd.prog 55 #[.pointer (some ⟨gp, 0, none⟩), .int .i8 (s : Int)] w fun e w' => e = .returned (.int .u64 (tn (pawnX t (bitB s) (bb 14) (bb 12) (bb 13) (epB ep)))) ∧ w = w' := by
  have c14 : w.cell? ⟨gb, 14, none⟩ = some (.int .u64 (tn (bb 14))) := hb.cell (i := 14) (by omega)
  have c13 : w.cell? ⟨gb, 13, none⟩ = some (.int .u64 (tn (bb 13))) := hb.cell (i := 13) (by omega)
  have c12 : w.cell? ⟨gb, 12, none⟩ = some (.int .u64 (tn (bb 12))) := hb.cell (i := 12) (by omega)
  have hTu := Lib.hid (fun (t : Int) (h : w.cell? ⟨gp, 5, none⟩ = some (.int .i8 t)) => turn_any gp t w h)
  have hSq := Lib.hid (bbForSquare_any (s : Int) (by omega) (by omega) w)
  have hSe := Lib.hid (fun (h : ep ≠ -1) => bbForSquare_any ep (by omega) (by omega) w)
  have hP : Hid (epB ep = if ep = -1 then 0#64 else bitB ep.toNat) := Lib.hid rfl
  have hX := Lib.hid (show pawnX t (bitB s) (bb 14) (bb 12) (bb 13) (epB ep) = if t = 1 then pawnUp (bitB s) (bb 14) (bb 13) (epB ep) else pawnDn (bitB s) (bb 14) (bb 12) (epB ep) from rfl)
  rw [Int.toNat_natCast] at hSq
  generalize hE : bb 14 = E at *
  generalize hS1 : bb 12 = S1 at *
  generalize hS2 : bb 13 = S2 at *
  clear hb hE hS1 hS2
  by_cases he : ep = -1
  · replace hP := Lib.hid (hP.out.trans (if_pos he))
    subst he
    rw [hP.out] at hX ⊢
    clear hSe hep hP
    rcases ht with rfl | rfl
    · replace hX := Lib.hid (hX.out.trans (if_pos rfl))
      unfold pawnUp at hX
      try simp only [BitVec.or_zero] at hX
      rw [hX.out]
      go_enter Tryd.func55, Tryd.ntmps55
      go_wp2_with (first
        | (go_at_call 62; refine hSq.out.mono ?_; rintro e w' ⟨rfl, rfl⟩)
        | (go_at_call 58; refine (hTu.out _ hp5).mono ?_; rintro e w' ⟨rfl, rfl⟩))
      go_ret
      exact ⟨rfl, rfl⟩
    · replace hX := Lib.hid (hX.out.trans (if_neg (by decide)))
      unfold pawnDn at hX
      try simp only [BitVec.or_zero] at hX
      rw [hX.out]
      go_enter Tryd.func55, Tryd.ntmps55
      go_wp2_with (first
        | (go_at_call 62; refine hSq.out.mono ?_; rintro e w' ⟨rfl, rfl⟩)
        | (go_at_call 58; refine (hTu.out _ hp5).mono ?_; rintro e w' ⟨rfl, rfl⟩))
      go_ret
      exact ⟨rfl, rfl⟩
  · replace hP := Lib.hid (hP.out.trans (if_neg he))
    rw [hP.out] at hX ⊢
    have hne : (ep != -1) = true := by simpa using he
    generalize bitB ep.toNat = EP at *
    clear hP
    rcases ht with rfl | rfl
    · replace hX := Lib.hid (hX.out.trans (if_pos rfl))
      unfold pawnUp at hX
      try simp only [BitVec.or_zero] at hX
      rw [hX.out]
      go_enter Tryd.func55, Tryd.ntmps55
      go_upto_region 2 with (go_at_call 62; refine hSq.out.mono ?_; rintro e w' ⟨rfl, rfl⟩)
      go_upto_region 4 with (fail)
      go_upto_region 5 with (go_at_call 62; refine (hSe.out he).mono ?_; rintro e w' ⟨rfl, rfl⟩)
      go_wp2_with (go_at_call 58; refine (hTu.out _ hp5).mono ?_; rintro e w' ⟨rfl, rfl⟩)
      go_ret
      exact ⟨rfl, rfl⟩
    · replace hX := Lib.hid (hX.out.trans (if_neg (by decide)))
      unfold pawnDn at hX
      try simp only [BitVec.or_zero] at hX
      rw [hX.out]
      go_enter Tryd.func55, Tryd.ntmps55
      go_upto_region 2 with (go_at_call 62; refine hSq.out.mono ?_; rintro e w' ⟨rfl, rfl⟩)
      go_upto_region 4 with (fail)
      go_upto_region 5 with (go_at_call 62; refine (hSe.out he).mono ?_; rintro e w' ⟨rfl, rfl⟩)
      go_wp2_with (go_at_call 58; refine (hTu.out _ hp5).mono ?_; rintro e w' ⟨rfl, rfl⟩)
      go_ret
      exact ⟨rfl, rfl⟩
end
attribute [local go_sem] bv_and bv_or bv_xor bv_sub bv_andc bv_orc bv_not

set_option maxRecDepth 100000 in
theorem bbQueen (gp gb : Nat) (E : BitVec 64) (s : Nat) (hs : s < 64) (w : World) (hT : Tabs w)
    (c14 : w.cell? ⟨gb, 14, none⟩ = some (.int .u64 (tn E))) (hp0 : w.cell? ⟨gp, 0, none⟩ = some (.pointer (some ⟨gb, 0, none⟩))) :
    Calls Tryd.prog 44 #[.pointer (some ⟨gp, 0, none⟩), .int .i8 2, .int .i8 (s : Int)] w fun e w' => e = .returned (.int .u64 (tn (diaOf (~~~E) s ||| hvOf (~~~E) s))) ∧ ∃ n, w' = w.drewN n := by
  have hD := Lib.hid (fun (n : Nat) => diaAttack_any (~~~E) (s : Int) (by omega) (by omega) (w.drewN n) (hT.heap rfl))
  have hH := Lib.hid (fun (n : Nat) => hvAttack_any (~~~E) (s : Int) (by omega) (by omega) (w.drewN n) (hT.heap rfl))
  rw [Int.toNat_natCast] at hD hH
  have hsl : (s : Int) < 64 := by omega
  have hsg : IntKind.u64.signed = false := rfl
  generalize diaOf (~~~E) s = D at *
  generalize hvOf (~~~E) s = H at *
  clear hT hs
  go_enter Tryd.func44, Tryd.ntmps44
  go_upto_region 5 with (fail)
  go_quiet (first | ((go_at_call 53; exact q_of (hD.out _))) | ((go_at_call 54; exact q_of (hH.out _))))
  go_wp2_with (fail)
  go_ret
  exact ⟨rfl, _, rfl⟩
/-- What a piece's bits are. -/
def possB (k t : Int) (s : Nat) (E W B P : BitVec 64) : BitVec 64 :=
  if k = 1 then kgT s else if k = 2 then diaOf (~~~E) s ||| hvOf (~~~E) s else if k = 3 then hvOf (~~~E) s else if k = 4 then diaOf (~~~E) s else if k = 5 then knT s else pawnX t (bitB s) E W B P
set_option maxRecDepth 100000 in
theorem bbPossible_any (gp gb : Nat) (bb : Nat → BitVec 64) (wk bk : Int) (t ep : Int) (ht : t = 1 ∨ t = 2) (hep : -1 ≤ ep ∧ ep < 64) (k : Int) (hk : 1 ≤ k ∧ k ≤ 6) (s : Nat) (hs : s < 64) (w : World) (hT : Tabs w) (hK : KTabs w)
    (hb : w.rowIs gb tBoard 17 (cellB bb wk bk)) (hp0 : w.cell? ⟨gp, 0, none⟩ = some (.pointer (some ⟨gb, 0, none⟩))) (hp5 : w.cell? ⟨gp, 5, none⟩ = some (.int .i8 t)) (hp6 : w.cell? ⟨gp, 6, none⟩ = some (.int .i8 ep)) :
    Calls Tryd.prog 44 #[.pointer (some ⟨gp, 0, none⟩), .int .i8 k, .int .i8 (s : Int)] w fun e w' => e = .returned (.int .u64 (tn (possB k t s (bb 14) (bb 12) (bb 13) (epB ep)))) ∧ ∃ n, w' = w.drewN n := by
  have c14 : w.cell? ⟨gb, 14, none⟩ = some (.int .u64 (tn (bb 14))) := hb.cell (i := 14) (by omega)
  by_cases hk2 : k = 2
  · subst hk2
    exact bbQueen gp gb (bb 14) s hs w hT c14 hp0
  have ckn := hK.kn s hs
  have ckg := hK.kg s hs
  have hsl : (s : Int) < 64 := by omega
  have hsg : IntKind.u64.signed = false := rfl
  have hD := Lib.hid (diaAttack_any (~~~(bb 14)) (s : Int) (by omega) (by omega) w hT)
  have hH := Lib.hid (hvAttack_any (~~~(bb 14)) (s : Int) (by omega) (by omega) w hT)
  have hPm := Lib.hid (pawnMoves_any gp gb bb wk bk t ep ht hep s hs w hb hp0 hp5 hp6)
  rw [Int.toNat_natCast] at hD hH
  have hX : ∀ j, j = k → Hid (possB k t s (bb 14) (bb 12) (bb 13) (epB ep) = if j = 1 then kgT s else if j = 2 then diaOf (~~~(bb 14)) s ||| hvOf (~~~(bb 14)) s else if j = 3 then hvOf (~~~(bb 14)) s else if j = 4 then diaOf (~~~(bb 14)) s else if j = 5 then knT s else pawnX t (bitB s) (bb 14) (bb 12) (bb 13) (epB ep)) := fun j h => by rw [h]; exact Lib.hid rfl
  generalize possB k t s (bb 14) (bb 12) (bb 13) (epB ep) = X at *
  generalize pawnX t (bitB s) (bb 14) (bb 12) (bb 13) (epB ep) = PX at *
  generalize diaOf (~~~(bb 14)) s = D at *
  generalize hvOf (~~~(bb 14)) s = H at *
  generalize knT s = KN at *
  generalize kgT s = KG at *
  generalize bb 14 = E at *
  clear hT hK hb hep ht hp5 hp6
  (have : k = 1 ∨ k = 3 ∨ k = 4 ∨ k = 5 ∨ k = 6 := (by omega))
  rcases this with rfl | rfl | rfl | rfl | rfl
  all_goals
    replace hX := hX _ rfl
    simp only [show ¬ ((2 : Int) = 1) by decide, show ¬ ((3 : Int) = 1) by decide, show ¬ ((3 : Int) = 2) by decide, show ¬ ((4 : Int) = 1) by decide, show ¬ ((4 : Int) = 2) by decide, show ¬ ((4 : Int) = 3) by decide, show ¬ ((5 : Int) = 1) by decide, show ¬ ((5 : Int) = 2) by decide, show ¬ ((5 : Int) = 3) by decide, show ¬ ((5 : Int) = 4) by decide, show ¬ ((6 : Int) = 1) by decide, show ¬ ((6 : Int) = 2) by decide, show ¬ ((6 : Int) = 3) by decide, show ¬ ((6 : Int) = 4) by decide, show ¬ ((6 : Int) = 5) by decide, if_true, if_false] at hX
    rw [hX.out]
    clear hX
    go_enter Tryd.func44, Tryd.ntmps44
  · go_wp2_with (fail)
    go_ret
    exact ⟨rfl, 0, rfl⟩
  · go_wp2_with (go_at_call 54; refine hH.out.mono ?_; rintro e w' ⟨rfl, rfl⟩)
    go_ret
    exact ⟨rfl, 0, rfl⟩
  · go_wp2_with (go_at_call 53; refine hD.out.mono ?_; rintro e w' ⟨rfl, rfl⟩)
    go_ret
    exact ⟨rfl, 0, rfl⟩
  · go_wp2_with (fail)
    go_ret
    exact ⟨rfl, 0, rfl⟩
  · go_wp2_with (go_at_call 55; refine hPm.out.mono ?_; rintro e w' ⟨rfl, rfl⟩)
    go_ret
    exact ⟨rfl, 0, rfl⟩
end Go.Proofs.YthdbgjhonnogpaaDoor

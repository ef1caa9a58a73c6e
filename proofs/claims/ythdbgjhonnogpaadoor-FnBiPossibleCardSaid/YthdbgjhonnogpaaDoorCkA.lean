/- Check, the program's side: whether one square is attacked. -/
import Derived.Test.YthdbgjhonnogpaaDoorImplBoard
import Derived.BigQuiet
import Derived.Deep.Cut
import Derived.Deep.CutRange
namespace Go.Proofs.YthdbgjhonnogpaaDoor
open Go.ChangeShapes Go.WideShapes Go.ChangeAt Go.RowKit Plain
set_option maxHeartbeats 1000000
set_option linter.unusedVariables false
set_option linter.unusedSimpArgs false
attribute [local go_sem] bv_and bv_or bv_xor bv_sub bv_andc bv_orc bv_not bv_shl7 bv_shl9 bv_shr7 bv_shr9

def knights : List Nat := [9077567998918656, 4679521487814656, 38368557762871296, 19184278881435648, 9592139440717824, 4796069720358912, 2257297371824128, 1128098930098176, 2305878468463689728, 1152939783987658752, 9799982666336960512, 4899991333168480256, 2449995666584240128, 1224997833292120064, 576469569871282176, 288234782788157440, 4620693356194824192, 11533718717099671552, 5802888705324613632, 2901444352662306816, 1450722176331153408, 725361088165576704, 362539804446949376, 145241105196122112, 18049583422636032, 45053588738670592, 22667534005174272, 11333767002587136, 5666883501293568, 2833441750646784, 1416171111120896, 567348067172352, 70506185244672, 175990581010432, 88545054707712, 44272527353856, 22136263676928, 11068131838464, 5531918402816, 2216203387392, 275414786112, 687463207072, 345879119952, 172939559976, 86469779988, 43234889994, 21609056261, 8657044482, 1075839008, 2685403152, 1351090312, 675545156, 337772578, 168886289, 84410376, 33816580, 4202496, 10489856, 5277696, 2638848, 1319424, 659712, 329728, 132096]
def kings : List Nat := [4665729213955833856, 11592265440851656704, 5796132720425828352, 2898066360212914176, 1449033180106457088, 724516590053228544, 362258295026614272, 144959613005987840, 13853283560024178688, 16186183351374184448, 8093091675687092224, 4046545837843546112, 2023272918921773056, 1011636459460886528, 505818229730443264, 216739030602088448, 54114388906344448, 63227278716305408, 31613639358152704, 15806819679076352, 7903409839538176, 3951704919769088, 1975852459884544, 846636838289408, 211384331665408, 246981557485568, 123490778742784, 61745389371392, 30872694685696, 15436347342848, 7718173671424, 3307175149568, 825720045568, 964771708928, 482385854464, 241192927232, 120596463616, 60298231808, 30149115904, 12918652928, 3225468928, 3768639488, 1884319744, 942159872, 471079936, 235539968, 117769984, 50463488, 12599488, 14721248, 7360624, 3680312, 1840156, 920078, 460039, 197123, 49216, 57504, 28752, 14376, 7188, 3594, 1797, 770]
def knT (k : Nat) : BitVec 64 := BitVec.ofNat 64 (knights.getD k 0)
def kgT (k : Nat) : BitVec 64 := BitVec.ofNat 64 (kings.getD k 0)
/-- The tables of jumps and steps. -/
structure KTabs (w : World) : Prop where
  kn : ∀ i, i < 64 → w.cell? ⟨1, i, none⟩ = some (.int .u64 (tn (knT i)))
  kg : ∀ i, i < 64 → w.cell? ⟨0, i, none⟩ = some (.int .u64 (tn (kgT i)))
theorem KTabs.below {w w' : World} (h : KTabs w) (hb : Below w.heap.size w w') : KTabs w' where
  kn i hi := cell_below hb (h.kn i hi)
  kg i hi := cell_below hb (h.kg i hi)
abbrev tPos : TypeId := 65
/-- A position's cells: board, rights, moves, half, full, turn, the square behind a pawn, check. -/
def posF (gb : Nat) (tx : ByteArray) (half full turn ep : Int) (ck : Bool) : Nat → Value
  | 0 => .pointer (some ⟨gb, 0, none⟩) | 1 => .string tx | 2 => .slice none 0 0 | 3 => .int .i64 half | 4 => .int .i64 full | 5 => .int .i8 turn | 6 => .int .i8 ep | _ => .bool ck
theorem turn_any (gp : Nat) (t : Int) (w : World) (h : w.cell? ⟨gp, 5, none⟩ = some (.int .i8 t)) :
    Calls Tryd.prog 58 #[.pointer (some ⟨gp, 0, none⟩)] w fun e w' => e = .returned (.int .i8 t) ∧ w = w' := by
  go_enter Tryd.func58, Tryd.ntmps58
  go_wp2
  go_ret
  exact ⟨rfl, rfl⟩
theorem other_any (t : Int) (ht : t = 1 ∨ t = 2) (w : World) :
    Calls Tryd.prog 66 #[.int .i8 t] w fun e w' => e = .returned (.int .i8 (3 - t)) ∧ w = w' := by
  rcases ht with rfl | rfl
  all_goals
    go_enter Tryd.func66, Tryd.ntmps66
    go_wp2
    go_ret
    exact ⟨rfl, rfl⟩
theorem q_of2 {P : Program} {f : FuncId} {args : Array Value} {w : World} {m n : Nat} {v : Value}
    (h : Calls P f args (w.drewN (m + n)) fun e w' => e = .returned v ∧ w.drewN (m + n) = w') : Calls P f args (w.drewN (m + n)) fun e w'' => e = .returned v ∧ ∃ k, w'' = w.drewN (m + k) :=
  h.mono fun _ _ ⟨he, hm⟩ => ⟨he, n, hm.symm⟩
theorem cell_heap {w wx : World} (e : wx.heap = w.heap) (a : Addr) : wx.cell? a = w.cell? a := World.cell?_of_block (by rw [e])
theorem TabsP.heap {w wx : World} (h : TabsP w) (e : wx.heap = w.heap) : TabsP wx := by
  obtain ⟨b, o, h1, h2⟩ := h
  exact ⟨b, o, by rw [cell_heap e]; exact h1, fun i hi => by rw [cell_heap e]; exact h2 i hi⟩
theorem Tabs.heap {w wx : World} (h : Tabs w) (e : wx.heap = w.heap) : Tabs wx where
  dia i hi := by rw [cell_heap e]; exact h.dia i hi
  anti i hi := by rw [cell_heap e]; exact h.anti i hi
  rank i hi := by rw [cell_heap e]; exact h.rank i hi
  file i hi := by rw [cell_heap e]; exact h.file i hi
/-- The tests of squaresAreAttacked: nothing near; queen, rook, bishop, knight, pawn, king. -/
def atkB (D H N K s2 q r b n p k : BitVec 64) : Bool :=
  if (tn (((D ||| H) &&& s2) ||| (N &&& s2)) == 0) then false
  else if (tn ((D ||| H) &&& q) != 0) then true
  else if (tn (H &&& r) != 0) then true
  else if (tn (D &&& b) != 0) then true
  else if (tn (N &&& n) != 0) then true
  else if (tn p != 0) then true
  else (tn (K &&& k) != 0)
def pawnW (p k : BitVec 64) : BitVec 64 := (((p &&& 18374403900871474942#64) &&& 72057594037927935#64) <<< 7 ||| ((p &&& 9187201950435737471#64) &&& 72057594037927935#64) <<< 9) &&& k
def pawnB (p k : BitVec 64) : BitVec 64 := (((p &&& 18374403900871474942#64) &&& 18446744073709551360#64) >>> 9 ||| ((p &&& 9187201950435737471#64) &&& 18446744073709551360#64) >>> 7) &&& k
/-- A square is attacked, as the program reckons it: by the side that is not to move (turn 1 white, 2 black). -/
def sqAt1 (bb : Nat → BitVec 64) (k : Nat) : Bool :=
  atkB (diaOf (~~~(fullOf bb 14)) k) (hvOf (~~~(fullOf bb 14)) k) (knT k) (kgT k) (fullOf bb 13) (bb 7) (bb 8) (bb 9) (bb 10) (pawnW (bb 11) (bitB k)) (bb 6)
def sqAt2 (bb : Nat → BitVec 64) (k : Nat) : Bool :=
  atkB (diaOf (~~~(fullOf bb 14)) k) (hvOf (~~~(fullOf bb 14)) k) (knT k) (kgT k) (fullOf bb 12) (bb 1) (bb 2) (bb 3) (bb 4) (pawnB (bb 5) (bitB k)) (bb 0)
set_option maxRecDepth 100000 in
theorem sqAtt1_any (gp gb gs : Nat) (bb : Nat → BitVec 64) (wk bk : Int) (k : Nat) (hk : k < 64) (cap : Nat) (w : World) (hT : Tabs w) (hP : TabsP w) (hK : KTabs w)
    (hb : w.rowIs gb tBoard 17 (cellB (fullOf bb) wk bk)) (hp0 : w.cell? ⟨gp, 0, none⟩ = some (.pointer (some ⟨gb, 0, none⟩))) (hp5 : w.cell? ⟨gp, 5, none⟩ = some (.int .i8 1)) (hs : w.cell? ⟨gs, 0, none⟩ = some (.int .i8 (k : Int))) :
    Calls Tryd.prog 59 #[.pointer (some ⟨gp, 0, none⟩), .slice (some ⟨gs, 0, none⟩) 1 cap] w fun e w' => e = .returned (.bool (sqAt1 bb k)) ∧ Below w.heap.size w w' := by
  have c14 : w.cell? ⟨gb, 14, none⟩ = some (.int .u64 (tn (fullOf bb 14))) := hb.cell (i := 14) (by omega)
  have c13 : w.cell? ⟨gb, 13, none⟩ = some (.int .u64 (tn (fullOf bb 13))) := hb.cell (i := 13) (by omega)
  have c12 : w.cell? ⟨gb, 12, none⟩ = some (.int .u64 (tn (fullOf bb 12))) := hb.cell (i := 12) (by omega)
  have c11 : w.cell? ⟨gb, 11, none⟩ = some (.int .u64 (tn (bb 11))) := hb.cell (i := 11) (by omega)
  have c5 : w.cell? ⟨gb, 5, none⟩ = some (.int .u64 (tn (bb 5))) := hb.cell (i := 5) (by omega)
  have ckn := hK.kn k hk
  have ckg := hK.kg k hk
  have hkl : (k : Int) < 64 := by omega
  have hE : ∃ E, E = fullOf bb 14 := ⟨_, rfl⟩
  have hNP := fun (wx : World) (hx : wx.heap = w.heap) (t : Int) (ht : 1 ≤ t ∧ t ≤ 6) => newPiece_any t 2 ht (.inr rfl) wx (hP.heap hx)
  have hBB := fun (wx : World) (hx : wx.heap = w.heap) (p : Int) (h0 : 1 ≤ p) (h1 : p ≤ 12) => bbForPiece_any gb _ (fullOf bb) wx (hb.of_block (by rw [hx])) (fun j hj => by unfold cellB; rw [if_pos (by omega)]) p h0 h1
  have hD := Lib.hid (fun (wx : World) (hx : wx.heap = w.heap) => diaAttack_any (~~~(fullOf bb 14)) (k : Int) (by omega) (by omega) wx (hT.heap hx))
  have hH := Lib.hid (fun (wx : World) (hx : wx.heap = w.heap) => hvAttack_any (~~~(fullOf bb 14)) (k : Int) (by omega) (by omega) wx (hT.heap hx))
  have hTu := Lib.hid (fun (wx : World) (hx : wx.heap = w.heap) => turn_any gp 1 wx (by rw [cell_heap hx]; exact hp5))
  have hSq := Lib.hid (fun (wx : World) => bbForSquare_any (k : Int) (by omega) (by omega) wx)
  have n2 := Lib.hid (fun wx hx => (show Calls Tryd.prog 68 #[.int .i8 2, .int .i8 2] wx fun e w' => e = .returned (.int .i8 8) ∧ wx = w' from hNP wx hx 2 (by omega)))
  have n3 := Lib.hid (fun wx hx => (show Calls Tryd.prog 68 #[.int .i8 3, .int .i8 2] wx fun e w' => e = .returned (.int .i8 9) ∧ wx = w' from hNP wx hx 3 (by omega)))
  have n4 := Lib.hid (fun wx hx => (show Calls Tryd.prog 68 #[.int .i8 4, .int .i8 2] wx fun e w' => e = .returned (.int .i8 10) ∧ wx = w' from hNP wx hx 4 (by omega)))
  have n5 := Lib.hid (fun wx hx => (show Calls Tryd.prog 68 #[.int .i8 5, .int .i8 2] wx fun e w' => e = .returned (.int .i8 11) ∧ wx = w' from hNP wx hx 5 (by omega)))
  have n1 := Lib.hid (fun wx hx => (show Calls Tryd.prog 68 #[.int .i8 1, .int .i8 2] wx fun e w' => e = .returned (.int .i8 7) ∧ wx = w' from hNP wx hx 1 (by omega)))
  have b8 := Lib.hid (fun wx hx => (show Calls Tryd.prog 67 #[.pointer (some ⟨gb, 0, none⟩), .int .i8 8] wx fun e w' => e = .returned (.int .u64 (tn (bb 7))) ∧ wx = w' from hBB wx hx 8 (by omega) (by omega)))
  have b9 := Lib.hid (fun wx hx => (show Calls Tryd.prog 67 #[.pointer (some ⟨gb, 0, none⟩), .int .i8 9] wx fun e w' => e = .returned (.int .u64 (tn (bb 8))) ∧ wx = w' from hBB wx hx 9 (by omega) (by omega)))
  have b10 := Lib.hid (fun wx hx => (show Calls Tryd.prog 67 #[.pointer (some ⟨gb, 0, none⟩), .int .i8 10] wx fun e w' => e = .returned (.int .u64 (tn (bb 9))) ∧ wx = w' from hBB wx hx 10 (by omega) (by omega)))
  have b11 := Lib.hid (fun wx hx => (show Calls Tryd.prog 67 #[.pointer (some ⟨gb, 0, none⟩), .int .i8 11] wx fun e w' => e = .returned (.int .u64 (tn (bb 10))) ∧ wx = w' from hBB wx hx 11 (by omega) (by omega)))
  have b7 := Lib.hid (fun wx hx => (show Calls Tryd.prog 67 #[.pointer (some ⟨gb, 0, none⟩), .int .i8 7] wx fun e w' => e = .returned (.int .u64 (tn (bb 6))) ∧ wx = w' from hBB wx hx 7 (by omega) (by omega)))
  clear hNP hBB hT hP hK hb
  have hS := Lib.hid (show sqAt1 bb k = atkB (diaOf (~~~(fullOf bb 14)) k) (hvOf (~~~(fullOf bb 14)) k) (knT k) (kgT k) (fullOf bb 13) (bb 7) (bb 8) (bb 9) (bb 10) (pawnW (bb 11) (bitB k)) (bb 6) from rfl)
  generalize sqAt1 bb k = S at *
  rw [Int.toNat_natCast] at hD hH hSq
  generalize diaOf (~~~(fullOf bb 14)) k = D at *
  generalize hvOf (~~~(fullOf bb 14)) k = H at *
  generalize knT k = KN at *
  generalize kgT k = KG at *
  generalize fullOf bb 14 = E at *
  generalize fullOf bb 13 = S2 at *
  generalize fullOf bb 12 = S1 at *
  go_enter Tryd.func59, Tryd.ntmps59
  go_upto_region 4 with (first
    | (go_at_call 58; refine (hTu.out _ rfl).mono ?_; rintro e w' ⟨rfl, rfl⟩)
    | (go_at_call 66; refine (other_any 1 (.inl rfl) _).mono ?_; rintro e w' ⟨rfl, rfl⟩))
  go_loopw [33] (fun i wr => ∃ j : Nat, i = .int .i64 (j : Int) ∧ ((j = 0 ∧ wr = w) ∨ (j = 1 ∧ S = false ∧ Below w.heap.size w wr))) (fun i _ => 1 - (intOf i).toNat)
  case atStart => exact ⟨0, rfl, .inl ⟨rfl, rfl⟩⟩
  case round =>
    obtain ⟨j, rfl, ⟨rfl, hw⟩ | ⟨rfl, hf, hB⟩⟩ := hrel
    · subst hw
      rw [show ((0 : Nat) : Int) = 0 from rfl]
      go_upto_region 9 with (go_at_call 58; refine (hTu.out _ rfl).mono ?_; rintro e w' ⟨rfl, rfl⟩)
      cases t0 : (tn (((D ||| H) &&& S2) ||| (KN &&& S2)) == 0)
      · go_quiet (first | ((go_at_call 53; exact q_of (hD.out _ rfl))) | ((go_at_call 54; exact q_of (hH.out _ rfl))))
        go_upto_region 10 with (fail)
        go_quiet (first | ((go_at_call 68; exact q_of2 (n2.out _ rfl))) | ((go_at_call 67; exact q_of2 (b8.out _ rfl))))
        go_upto_region 12 with (first | (go_at_call 53; refine (hD.out (World.drewN _ _) rfl).mono ?_; rintro e w' ⟨rfl, rfl⟩) | (go_at_call 54; refine (hH.out (World.drewN _ _) rfl).mono ?_; rintro e w' ⟨rfl, rfl⟩))
        cases t1 : (tn ((D ||| H) &&& bb 7) != 0)
        · go_upto_region 14 with (fail)
          go_quiet (first | ((go_at_call 68; exact q_of2 (n3.out _ rfl))) | ((go_at_call 67; exact q_of2 (b9.out _ rfl))))
          go_upto_region 16 with (go_at_call 54; refine (hH.out (World.drewN _ _) rfl).mono ?_; rintro e w' ⟨rfl, rfl⟩)
          cases t2 : (tn (H &&& bb 8) != 0)
          · go_upto_region 18 with (fail)
            go_quiet (first | ((go_at_call 68; exact q_of2 (n4.out _ rfl))) | ((go_at_call 67; exact q_of2 (b10.out _ rfl))))
            go_upto_region 20 with (go_at_call 53; refine (hD.out (World.drewN _ _) rfl).mono ?_; rintro e w' ⟨rfl, rfl⟩)
            cases t3 : (tn (D &&& bb 9) != 0)
            · go_upto_region 22 with (fail)
              go_quiet (first | ((go_at_call 68; exact q_of2 (n5.out _ rfl))) | ((go_at_call 67; exact q_of2 (b11.out _ rfl))))
              cases t4 : (tn (KN &&& bb 10) != 0)
              · go_upto_region 30 with (first | (go_at_call 58; refine (hTu.out (World.drewN _ _) rfl).mono ?_; rintro e w' ⟨rfl, rfl⟩) | (go_at_call 62; refine (hSq.out _).mono ?_; rintro e w' ⟨rfl, rfl⟩))
                cases t5 : (tn (((((bb 11 &&& 18374403900871474942#64) &&& 72057594037927935#64) <<< 7) ||| (((bb 11 &&& 9187201950435737471#64) &&& 72057594037927935#64) <<< 9)) &&& bitB k) != 0)
                · go_upto_region 37 with (fail)
                  go_quiet (first | ((go_at_call 68; exact q_of2 (n1.out _ rfl))) | ((go_at_call 67; exact q_of2 (b7.out _ rfl))))
                  cases t6 : (tn (KG &&& bb 6) != 0)
                  · have hSf : S = false := by rw [hS.out]; unfold atkB; simp only [pawnW, t0, t1, t2, t3, t4, t5, t6, ↓reduceIte, Bool.false_eq_true]
                    replace hSf := Lib.hid hSf
                    go_wp2_with (fail)
                    exact ⟨⟨1, rfl, .inr ⟨rfl, hSf.out, ⟨rfl, rfl, rfl, Nat.le_refl _, fun _ _ => rfl⟩⟩⟩, by simp [intOf]⟩
                  · go_wp2_with (fail)
                    go_ret
                    exact ⟨by rw [show S = true from by rw [hS.out]; unfold atkB; simp only [pawnW, t0, t1, t2, t3, t4, t5, t6, ↓reduceIte, Bool.false_eq_true]]; rfl, ⟨rfl, rfl, rfl, Nat.le_refl _, fun _ _ => rfl⟩⟩
                · go_wp2_with (fail)
                  go_ret
                  exact ⟨by rw [show S = true from by rw [hS.out]; unfold atkB; simp only [pawnW, t0, t1, t2, t3, t4, t5, ↓reduceIte, Bool.false_eq_true]]; rfl, ⟨rfl, rfl, rfl, Nat.le_refl _, fun _ _ => rfl⟩⟩
              · go_wp2_with (fail)
                go_ret
                exact ⟨by rw [show S = true from by rw [hS.out]; unfold atkB; simp only [t0, t1, t2, t3, t4, ↓reduceIte, Bool.false_eq_true]]; rfl, ⟨rfl, rfl, rfl, Nat.le_refl _, fun _ _ => rfl⟩⟩
            · go_wp2_with (fail)
              go_ret
              exact ⟨by rw [show S = true from by rw [hS.out]; unfold atkB; simp only [t0, t1, t2, t3, ↓reduceIte, Bool.false_eq_true]]; rfl, ⟨rfl, rfl, rfl, Nat.le_refl _, fun _ _ => rfl⟩⟩
          · go_wp2_with (fail)
            go_ret
            exact ⟨by rw [show S = true from by rw [hS.out]; unfold atkB; simp only [t0, t1, t2, ↓reduceIte, Bool.false_eq_true]]; rfl, ⟨rfl, rfl, rfl, Nat.le_refl _, fun _ _ => rfl⟩⟩
        · go_wp2_with (fail)
          go_ret
          exact ⟨by rw [show S = true from by rw [hS.out]; unfold atkB; simp only [t0, t1, ↓reduceIte, Bool.false_eq_true]]; rfl, ⟨rfl, rfl, rfl, Nat.le_refl _, fun _ _ => rfl⟩⟩
      · go_quiet (first | ((go_at_call 53; exact q_of (hD.out _ rfl))) | ((go_at_call 54; exact q_of (hH.out _ rfl))))
        have hSf : S = false := by rw [hS.out]; unfold atkB; simp only [t0, ↓reduceIte]
        replace hSf := Lib.hid hSf
        go_wp2_with (fail)
        exact ⟨⟨1, rfl, .inr ⟨rfl, hSf.out, ⟨rfl, rfl, rfl, Nat.le_refl _, fun _ _ => rfl⟩⟩⟩, by simp [intOf]⟩
    · rw [show ((1 : Nat) : Int) = 1 from rfl]
      replace hf := Lib.hid hf
      go_wp2_with (fail)
      go_ret
      exact ⟨by rw [hf.out]; rfl, hB⟩
set_option maxRecDepth 100000 in
theorem sqAtt2_any (gp gb gs : Nat) (bb : Nat → BitVec 64) (wk bk : Int) (k : Nat) (hk : k < 64) (cap : Nat) (w : World) (hT : Tabs w) (hP : TabsP w) (hK : KTabs w)
    (hb : w.rowIs gb tBoard 17 (cellB (fullOf bb) wk bk)) (hp0 : w.cell? ⟨gp, 0, none⟩ = some (.pointer (some ⟨gb, 0, none⟩))) (hp5 : w.cell? ⟨gp, 5, none⟩ = some (.int .i8 2)) (hs : w.cell? ⟨gs, 0, none⟩ = some (.int .i8 (k : Int))) :
    Calls Tryd.prog 59 #[.pointer (some ⟨gp, 0, none⟩), .slice (some ⟨gs, 0, none⟩) 1 cap] w fun e w' => e = .returned (.bool (sqAt2 bb k)) ∧ Below w.heap.size w w' := by
  have c14 : w.cell? ⟨gb, 14, none⟩ = some (.int .u64 (tn (fullOf bb 14))) := hb.cell (i := 14) (by omega)
  have c13 : w.cell? ⟨gb, 13, none⟩ = some (.int .u64 (tn (fullOf bb 13))) := hb.cell (i := 13) (by omega)
  have c12 : w.cell? ⟨gb, 12, none⟩ = some (.int .u64 (tn (fullOf bb 12))) := hb.cell (i := 12) (by omega)
  have c11 : w.cell? ⟨gb, 11, none⟩ = some (.int .u64 (tn (bb 11))) := hb.cell (i := 11) (by omega)
  have c5 : w.cell? ⟨gb, 5, none⟩ = some (.int .u64 (tn (bb 5))) := hb.cell (i := 5) (by omega)
  have ckn := hK.kn k hk
  have ckg := hK.kg k hk
  have hkl : (k : Int) < 64 := by omega
  have hE : ∃ E, E = fullOf bb 14 := ⟨_, rfl⟩
  have hNP := fun (wx : World) (hx : wx.heap = w.heap) (t : Int) (ht : 1 ≤ t ∧ t ≤ 6) => newPiece_any t 1 ht (.inl rfl) wx (hP.heap hx)
  have hBB := fun (wx : World) (hx : wx.heap = w.heap) (p : Int) (h0 : 1 ≤ p) (h1 : p ≤ 12) => bbForPiece_any gb _ (fullOf bb) wx (hb.of_block (by rw [hx])) (fun j hj => by unfold cellB; rw [if_pos (by omega)]) p h0 h1
  have hD := Lib.hid (fun (wx : World) (hx : wx.heap = w.heap) => diaAttack_any (~~~(fullOf bb 14)) (k : Int) (by omega) (by omega) wx (hT.heap hx))
  have hH := Lib.hid (fun (wx : World) (hx : wx.heap = w.heap) => hvAttack_any (~~~(fullOf bb 14)) (k : Int) (by omega) (by omega) wx (hT.heap hx))
  have hTu := Lib.hid (fun (wx : World) (hx : wx.heap = w.heap) => turn_any gp 2 wx (by rw [cell_heap hx]; exact hp5))
  have hSq := Lib.hid (fun (wx : World) => bbForSquare_any (k : Int) (by omega) (by omega) wx)
  have n2 := Lib.hid (fun wx hx => (show Calls Tryd.prog 68 #[.int .i8 2, .int .i8 1] wx fun e w' => e = .returned (.int .i8 2) ∧ wx = w' from hNP wx hx 2 (by omega)))
  have n3 := Lib.hid (fun wx hx => (show Calls Tryd.prog 68 #[.int .i8 3, .int .i8 1] wx fun e w' => e = .returned (.int .i8 3) ∧ wx = w' from hNP wx hx 3 (by omega)))
  have n4 := Lib.hid (fun wx hx => (show Calls Tryd.prog 68 #[.int .i8 4, .int .i8 1] wx fun e w' => e = .returned (.int .i8 4) ∧ wx = w' from hNP wx hx 4 (by omega)))
  have n5 := Lib.hid (fun wx hx => (show Calls Tryd.prog 68 #[.int .i8 5, .int .i8 1] wx fun e w' => e = .returned (.int .i8 5) ∧ wx = w' from hNP wx hx 5 (by omega)))
  have n1 := Lib.hid (fun wx hx => (show Calls Tryd.prog 68 #[.int .i8 1, .int .i8 1] wx fun e w' => e = .returned (.int .i8 1) ∧ wx = w' from hNP wx hx 1 (by omega)))
  have b8 := Lib.hid (fun wx hx => (show Calls Tryd.prog 67 #[.pointer (some ⟨gb, 0, none⟩), .int .i8 2] wx fun e w' => e = .returned (.int .u64 (tn (bb 1))) ∧ wx = w' from hBB wx hx 2 (by omega) (by omega)))
  have b9 := Lib.hid (fun wx hx => (show Calls Tryd.prog 67 #[.pointer (some ⟨gb, 0, none⟩), .int .i8 3] wx fun e w' => e = .returned (.int .u64 (tn (bb 2))) ∧ wx = w' from hBB wx hx 3 (by omega) (by omega)))
  have b10 := Lib.hid (fun wx hx => (show Calls Tryd.prog 67 #[.pointer (some ⟨gb, 0, none⟩), .int .i8 4] wx fun e w' => e = .returned (.int .u64 (tn (bb 3))) ∧ wx = w' from hBB wx hx 4 (by omega) (by omega)))
  have b11 := Lib.hid (fun wx hx => (show Calls Tryd.prog 67 #[.pointer (some ⟨gb, 0, none⟩), .int .i8 5] wx fun e w' => e = .returned (.int .u64 (tn (bb 4))) ∧ wx = w' from hBB wx hx 5 (by omega) (by omega)))
  have b7 := Lib.hid (fun wx hx => (show Calls Tryd.prog 67 #[.pointer (some ⟨gb, 0, none⟩), .int .i8 1] wx fun e w' => e = .returned (.int .u64 (tn (bb 0))) ∧ wx = w' from hBB wx hx 1 (by omega) (by omega)))
  clear hNP hBB hT hP hK hb
  have hS := Lib.hid (show sqAt2 bb k = atkB (diaOf (~~~(fullOf bb 14)) k) (hvOf (~~~(fullOf bb 14)) k) (knT k) (kgT k) (fullOf bb 12) (bb 1) (bb 2) (bb 3) (bb 4) (pawnB (bb 5) (bitB k)) (bb 0) from rfl)
  generalize sqAt2 bb k = S at *
  rw [Int.toNat_natCast] at hD hH hSq
  generalize diaOf (~~~(fullOf bb 14)) k = D at *
  generalize hvOf (~~~(fullOf bb 14)) k = H at *
  generalize knT k = KN at *
  generalize kgT k = KG at *
  generalize fullOf bb 14 = E at *
  generalize fullOf bb 13 = S2 at *
  generalize fullOf bb 12 = S1 at *
  go_enter Tryd.func59, Tryd.ntmps59
  go_upto_region 4 with (first
    | (go_at_call 58; refine (hTu.out _ rfl).mono ?_; rintro e w' ⟨rfl, rfl⟩)
    | (go_at_call 66; refine (other_any 2 (.inr rfl) _).mono ?_; rintro e w' ⟨rfl, rfl⟩))
  go_loopw [33] (fun i wr => ∃ j : Nat, i = .int .i64 (j : Int) ∧ ((j = 0 ∧ wr = w) ∨ (j = 1 ∧ S = false ∧ Below w.heap.size w wr))) (fun i _ => 1 - (intOf i).toNat)
  case atStart => exact ⟨0, rfl, .inl ⟨rfl, rfl⟩⟩
  case round =>
    obtain ⟨j, rfl, ⟨rfl, hw⟩ | ⟨rfl, hf, hB⟩⟩ := hrel
    · subst hw
      rw [show ((0 : Nat) : Int) = 0 from rfl]
      go_upto_region 9 with (go_at_call 58; refine (hTu.out _ rfl).mono ?_; rintro e w' ⟨rfl, rfl⟩)
      cases t0 : (tn (((D ||| H) &&& S1) ||| (KN &&& S1)) == 0)
      · go_quiet (first | ((go_at_call 53; exact q_of (hD.out _ rfl))) | ((go_at_call 54; exact q_of (hH.out _ rfl))))
        go_upto_region 10 with (fail)
        go_quiet (first | ((go_at_call 68; exact q_of2 (n2.out _ rfl))) | ((go_at_call 67; exact q_of2 (b8.out _ rfl))))
        go_upto_region 12 with (first | (go_at_call 53; refine (hD.out (World.drewN _ _) rfl).mono ?_; rintro e w' ⟨rfl, rfl⟩) | (go_at_call 54; refine (hH.out (World.drewN _ _) rfl).mono ?_; rintro e w' ⟨rfl, rfl⟩))
        cases t1 : (tn ((D ||| H) &&& bb 1) != 0)
        · go_upto_region 14 with (fail)
          go_quiet (first | ((go_at_call 68; exact q_of2 (n3.out _ rfl))) | ((go_at_call 67; exact q_of2 (b9.out _ rfl))))
          go_upto_region 16 with (go_at_call 54; refine (hH.out (World.drewN _ _) rfl).mono ?_; rintro e w' ⟨rfl, rfl⟩)
          cases t2 : (tn (H &&& bb 2) != 0)
          · go_upto_region 18 with (fail)
            go_quiet (first | ((go_at_call 68; exact q_of2 (n4.out _ rfl))) | ((go_at_call 67; exact q_of2 (b10.out _ rfl))))
            go_upto_region 20 with (go_at_call 53; refine (hD.out (World.drewN _ _) rfl).mono ?_; rintro e w' ⟨rfl, rfl⟩)
            cases t3 : (tn (D &&& bb 3) != 0)
            · go_upto_region 22 with (fail)
              go_quiet (first | ((go_at_call 68; exact q_of2 (n5.out _ rfl))) | ((go_at_call 67; exact q_of2 (b11.out _ rfl))))
              cases t4 : (tn (KN &&& bb 4) != 0)
              · go_upto_region 35 with (first | (go_at_call 58; refine (hTu.out (World.drewN _ _) rfl).mono ?_; rintro e w' ⟨rfl, rfl⟩) | (go_at_call 62; refine (hSq.out _).mono ?_; rintro e w' ⟨rfl, rfl⟩))
                cases t5 : (tn (((((bb 5 &&& 18374403900871474942#64) &&& 18446744073709551360#64) >>> 9) ||| (((bb 5 &&& 9187201950435737471#64) &&& 18446744073709551360#64) >>> 7)) &&& bitB k) != 0)
                · go_upto_region 37 with (fail)
                  go_quiet (first | ((go_at_call 68; exact q_of2 (n1.out _ rfl))) | ((go_at_call 67; exact q_of2 (b7.out _ rfl))))
                  cases t6 : (tn (KG &&& bb 0) != 0)
                  · have hSf : S = false := by rw [hS.out]; unfold atkB; simp only [pawnB, t0, t1, t2, t3, t4, t5, t6, ↓reduceIte, Bool.false_eq_true]
                    replace hSf := Lib.hid hSf
                    go_wp2_with (fail)
                    exact ⟨⟨1, rfl, .inr ⟨rfl, hSf.out, ⟨rfl, rfl, rfl, Nat.le_refl _, fun _ _ => rfl⟩⟩⟩, by simp [intOf]⟩
                  · go_wp2_with (fail)
                    go_ret
                    exact ⟨by rw [show S = true from by rw [hS.out]; unfold atkB; simp only [pawnB, t0, t1, t2, t3, t4, t5, t6, ↓reduceIte, Bool.false_eq_true]]; rfl, ⟨rfl, rfl, rfl, Nat.le_refl _, fun _ _ => rfl⟩⟩
                · go_wp2_with (fail)
                  go_ret
                  exact ⟨by rw [show S = true from by rw [hS.out]; unfold atkB; simp only [pawnB, t0, t1, t2, t3, t4, t5, ↓reduceIte, Bool.false_eq_true]]; rfl, ⟨rfl, rfl, rfl, Nat.le_refl _, fun _ _ => rfl⟩⟩
              · go_wp2_with (fail)
                go_ret
                exact ⟨by rw [show S = true from by rw [hS.out]; unfold atkB; simp only [t0, t1, t2, t3, t4, ↓reduceIte, Bool.false_eq_true]]; rfl, ⟨rfl, rfl, rfl, Nat.le_refl _, fun _ _ => rfl⟩⟩
            · go_wp2_with (fail)
              go_ret
              exact ⟨by rw [show S = true from by rw [hS.out]; unfold atkB; simp only [t0, t1, t2, t3, ↓reduceIte, Bool.false_eq_true]]; rfl, ⟨rfl, rfl, rfl, Nat.le_refl _, fun _ _ => rfl⟩⟩
          · go_wp2_with (fail)
            go_ret
            exact ⟨by rw [show S = true from by rw [hS.out]; unfold atkB; simp only [t0, t1, t2, ↓reduceIte, Bool.false_eq_true]]; rfl, ⟨rfl, rfl, rfl, Nat.le_refl _, fun _ _ => rfl⟩⟩
        · go_wp2_with (fail)
          go_ret
          exact ⟨by rw [show S = true from by rw [hS.out]; unfold atkB; simp only [t0, t1, ↓reduceIte, Bool.false_eq_true]]; rfl, ⟨rfl, rfl, rfl, Nat.le_refl _, fun _ _ => rfl⟩⟩
      · go_quiet (first | ((go_at_call 53; exact q_of (hD.out _ rfl))) | ((go_at_call 54; exact q_of (hH.out _ rfl))))
        have hSf : S = false := by rw [hS.out]; unfold atkB; simp only [t0, ↓reduceIte]
        replace hSf := Lib.hid hSf
        go_wp2_with (fail)
        exact ⟨⟨1, rfl, .inr ⟨rfl, hSf.out, ⟨rfl, rfl, rfl, Nat.le_refl _, fun _ _ => rfl⟩⟩⟩, by simp [intOf]⟩
    · rw [show ((1 : Nat) : Int) = 1 from rfl]
      replace hf := Lib.hid hf
      go_wp2_with (fail)
      go_ret
      exact ⟨by rw [hf.out]; rfl, hB⟩
end Go.Proofs.YthdbgjhonnogpaaDoor

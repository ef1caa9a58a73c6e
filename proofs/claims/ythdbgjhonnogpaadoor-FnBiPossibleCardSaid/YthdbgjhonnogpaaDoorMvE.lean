/- The rules' moves, weakly: which of two moves stands first; the rights to castle. -/
import Derived.Test.YthdbgjhonnogpaaDoorMvD
namespace Go.Proofs.YthdbgjhonnogpaaDoor
open Go.ChangeShapes Go.WideShapes Go.ChangeAt Go.RowKit Plain
set_option maxHeartbeats 4000000
set_option linter.unusedVariables false
set_option linter.unusedSimpArgs false

set_option maxRecDepth 100000 in
theorem before_any (a b q c d r : Int) (w : World) :
    Calls Tryd.prog 57 #[mvI a b q, mvI c d r] w fun e w' => (∃ y : Bool, e = .returned (.bool y)) ∧ Below w.heap.size w w' := by
  have hB : Below w.heap.size w ((w.alloc (.cells #[.int .i64 a, .int .i64 b, .int .i64 q] 58)).alloc (.cells #[.int .i64 c, .int .i64 d, .int .i64 r] 58)) := ((Below.refl _ _).alloc (Nat.le_refl _) _).alloc (by simp) _
  unfold mvI
  go_enter Tryd.func57, Tryd.ntmps57
  cases h1 : (a != c)
  · cases h2 : (b != d)
    · go_wp2_with (fail)
      go_ret
      exact ⟨⟨_, rfl⟩, hB⟩
    · go_wp2_with (fail)
      go_ret
      exact ⟨⟨_, rfl⟩, hB⟩
  · go_wp2_with (fail)
    go_ret
    exact ⟨⟨_, rfl⟩, hB⟩
theorem home_lt (k : Nat) (h : k < 4) : homeK k < 64 ∧ homeR k < 64 := by
  unfold homeK homeR
  constructor
  · omega
  · split <;> omega
/-- A right to castle whose king and rook stand at home; all of them. -/
def rightB (g : Nat → Int) (k : Nat) : Bool := (bits BinOp.and IntKind.i64 (g 65 / 2 ^ k) 1 == 1) && ((g (homeK k) == 1 + 6 * ((k : Int) / 2)) && (g (homeR k) == 3 + 6 * ((k : Int) / 2)))
def rightsTo (g : Nat → Int) : Nat → Int
  | 0 => 0
  | k + 1 => if rightB g k then rightsTo g k + 2 ^ k else rightsTo g k
theorem rightsTo_range (g : Nat → Int) : ∀ k, 0 ≤ rightsTo g k ∧ rightsTo g k < 2 ^ k
  | 0 => by simp [rightsTo]
  | k + 1 => by
    have := rightsTo_range g k
    unfold rightsTo
    rw [Int.pow_succ]
    split <;> omega
theorem wrap_pow (z : Int) (k : Nat) (hk : k < 4) (h : 0 ≤ z ∧ z < 2 ^ k) : wrap64 (z + wrap64 (2 ^ k)) = z + 2 ^ k := by
  (have : k = 0 ∨ k = 1 ∨ k = 2 ∨ k = 3 := (by omega))
  rcases this with rfl | rfl | rfl | rfl
  all_goals
    simp only [show (2 : Int) ^ 0 = 1 from rfl, show (2 : Int) ^ 1 = 2 from rfl, show (2 : Int) ^ 2 = 4 from rfl, show (2 : Int) ^ 3 = 8 from rfl] at h ⊢
    unfold wrap64
    omega
def rightsG (g : Nat → Int) : Int := rightsTo g 4
set_option maxRecDepth 100000 in
theorem rights_any (g : Nat → Int) (w : World) :
    Calls Tryd.prog 30 #[intRow 69 g] w fun e w' => e = .returned (.int .i64 (rightsG g)) ∧ Below w.heap.size w w' := by
  have hr := rowIs_new w 24 69 (fun i => .int .i64 (g i))
  have hb : Below w.heap.size w (w.alloc (.cells (rowArr 69 fun i => .int .i64 (g i)) 24)) := (Below.refl _ _).alloc (Nat.le_refl _) _
  unfold intRow
  go_enter Tryd.func30, Tryd.ntmps30
  go_wp2_with (fail)
  generalize (w.alloc (.cells (rowArr 69 fun i => .int .i64 (g i)) 24)) = w1 at *
  go_loopw [3, 4] (fun y i wr => ∃ k : Nat, y = .int .i64 (rightsTo g k) ∧ k ≤ 4 ∧ i = .int .i64 (k : Int) ∧ wr.rowIs w.heap.size 24 69 (fun i => .int .i64 (g i)) ∧ Below w.heap.size w wr) (fun _ i _ => 4 - (intOf i).toNat)
  case atStart => exact ⟨0, rfl, by omega, rfl, hr, hb⟩
  case round =>
    clear hr hb
    obtain ⟨k, rfl, hk, rfl, hr, hb⟩ := hrel
    by_cases hlt : k < 4
    · have hd : decide ((k : Int) < 4) = true := decide_eq_true (by omega)
      have hho := Lib.hid (home_any k hlt)
      have hhl := home_lt k hlt
      have c65 : wr.cell? ⟨w.heap.size, 65, none⟩ = some (.int .i64 (g 65)) := hr.cell (i := 65) (by omega)
      have cK : wr.cell? ⟨w.heap.size, homeK k, none⟩ = some (.int .i64 (g (homeK k))) := hr.cell (i := homeK k) (by omega)
      have cR : wr.cell? ⟨w.heap.size, homeR k, none⟩ = some (.int .i64 (g (homeR k))) := hr.cell (i := homeR k) (by omega)
      have ek : (k : Int).tdiv 2 = (k : Int) / 2 := Int.tdiv_eq_ediv_of_nonneg (by omega)
      have hB := Lib.hid (show rightB g k = ((bits BinOp.and IntKind.i64 (g 65 / 2 ^ k) 1 == 1) && ((g (homeK k) == 1 + 6 * ((k : Int) / 2)) && (g (homeR k) == 3 + 6 * ((k : Int) / 2)))) from rfl)
      have hS := Lib.hid (show rightsTo g (k + 1) = if rightB g k then rightsTo g k + 2 ^ k else rightsTo g k from rfl)
      have hZ := rightsTo_range g k
      generalize rightB g k = RB at *
      generalize homeK k = K1 at *
      generalize homeR k = R1 at *
      have hk1 : (K1 : Int) < 64 := by omega
      have hk2 : (R1 : Int) < 64 := by omega
      replace hZ := Lib.hid hZ
      go_upto_region 6 with (go_at_call 45; refine (hho.out _).mono ?_; rintro e w' ⟨rfl, rfl⟩)
      clear hho
      go_cut [41] from 11 to 41 (fun x wx => (x = .bool RB) ∧ ∃ n, wx = wr.drewN n)
      case first =>
        cases x0 : (bits BinOp.and IntKind.i64 (g 65 / 2 ^ k) 1 == 1)
        · have e0 := hB.out
          rw [x0, Bool.false_and] at e0
          subst e0
          go_quiet (fail)
          go_wp2_with (fail)
          go_meet
          exact ⟨rfl, _, rfl⟩
        · cases x1 : (g K1 == 1 + 6 * ((k : Int) / 2)) <;> cases x2 : (g R1 == 3 + 6 * ((k : Int) / 2))
          all_goals
            have e0 := hB.out
            rw [x0, x1, x2] at e0
            simp only [Bool.and_true, Bool.and_false, Bool.true_and, Bool.false_and] at e0
            subst e0
            go_quiet ((go_at_call 9; exact q_of (of_any _ _ (by omega) (by omega) (by omega) (by omega) _)))
            go_wp2_with (fail)
            go_meet
            exact ⟨rfl, _, rfl⟩
      case rest =>
        obtain ⟨rfl, nn, hwc⟩ := hcut
        have hr7 : wc.rowIs w.heap.size 24 69 (fun i => .int .i64 (g i)) := by rw [hwc]; exact hr.of_block rfl
        have hb7 : Below w.heap.size w wc := by rw [hwc]; exact hb.trans ⟨rfl, rfl, rfl, Nat.le_refl _, fun _ _ => rfl⟩
        clear hwc hr hb c65 cK cR
        clear hB
        cases RB
        · replace hr7 := Lib.hid hr7
          replace hb7 := Lib.hid hb7
          go_wp2_with (fail)
          exact ⟨⟨k + 1, by rw [hS.out, if_neg (by simp)], by omega, by go_num, hr7.out, hb7.out⟩, by simp [intOf]; omega⟩
        · replace hr7 := Lib.hid hr7
          replace hb7 := Lib.hid hb7
          go_wp2_with (fail)
          exact ⟨⟨k + 1, by rw [hS.out, if_pos rfl, wrap_pow _ _ hlt hZ.out], by omega, by go_num, hr7.out, hb7.out⟩, by simp [intOf]; omega⟩
    · obtain rfl : k = 4 := by omega
      go_wp2_with (fail)
      go_ret
      exact ⟨rfl, hb⟩
end Go.Proofs.YthdbgjhonnogpaaDoor

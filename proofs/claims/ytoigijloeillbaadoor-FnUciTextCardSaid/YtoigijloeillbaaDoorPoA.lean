/- A book's move: its code's parts, as they are told, and the reading of a move's parts. -/
import Derived.Test.YtoigijloeillbaaDoorCells
namespace Go.Proofs.YtoigijloeillbaaDoor
open Go.ChangeShapes Go.WideShapes Go.ChangeAt Go.RowKit Go.PlainAid
set_option maxHeartbeats 1000000
set_option linter.unusedVariables false
set_option linter.unusedSimpArgs false

theorem and7 (a : Int) (h0 : 0 ≤ a) (h1 : a < 65536) : bits .and .u16 a 7 = a % 8 := by
  rw [u16_and a 7 h0 h1 (by omega) (by omega)]
  show ((a.toNat &&& 7 : Nat) : Int) = _
  rw [nat_mask3]
  omega
theorem and63' (a : Int) (h0 : 0 ≤ a) (h1 : a < 65536) : bits .and .u16 a 63 = a % 64 := by
  rw [u16_and a 63 h0 h1 (by omega) (by omega)]
  show ((a.toNat &&& 63 : Nat) : Int) = _
  rw [nat_mask6]
  omega
theorem or_add (i : Nat) (a b : Int) (ha0 : 0 ≤ a) (ha : a < 2 ^ i) (hb0 : 0 ≤ b) (hb : b < 65536) (h : b % 2 ^ i = 0) (hi : (2 : Int) ^ i ≤ 65536) : bits .or .u16 a b = a + b := by
  rw [u16_or a b ha0 (by omega) hb0 hb, Nat.or_comm, nat_join i b.toNat a.toNat]
  · omega
  · have : ((b.toNat % 2 ^ i : Nat) : Int) = 0 := by
      rw [Int.natCast_emod, Int.toNat_of_nonneg hb0, Int.natCast_pow]; exact h
    omega
  · have : (a.toNat : Int) < ((2 ^ i : Nat) : Int) := by
      rw [Int.toNat_of_nonneg ha0, Int.natCast_pow]; exact ha
    omega
/-- The parts of a book's move. -/
def polyV (a b c d p : Int) (k : Bool) : Value := .agg #[.int .i64 a, .int .i64 b, .int .i64 c, .int .i64 d, .int .i64 p, .bool k]
theorem castle_any (a b c d : Int) (h : ¬ (a = 4 ∧ (b = 0 ∨ b = 7))) (w : World) :
    Calls Tryd.prog 34 #[.int .i64 a, .int .i64 b, .int .i64 c, .int .i64 d] w fun e w' => e = .returned (.bool false) ∧ w = w' := by
  by_cases h1 : a = 4
  · have hb : ¬ b = 0 ∧ ¬ b = 7 := ⟨fun e => h ⟨h1, .inl e⟩, fun e => h ⟨h1, .inr e⟩⟩
    have e1 : (a == 4) = true := by simpa using h1
    have e2 : (b == 0) = false := by simpa using hb.1
    have e3 : (b == 7) = false := by simpa using hb.2
    clear h hb h1
    go_enter Tryd.func34, Tryd.ntmps34
    go_wp2
    go_ret
    exact ⟨rfl, rfl⟩
  · have e1 : (a == 4) = false := by simpa using h1
    clear h h1
    go_enter Tryd.func34, Tryd.ntmps34
    go_wp2
    go_ret
    exact ⟨rfl, rfl⟩
theorem decodeMove_any (x : Int) (h0 : 0 ≤ x) (h1 : x < 65536) (h : ¬ (x / 64 % 8 = 4 ∧ (x / 512 % 8 = 0 ∨ x / 512 % 8 = 7))) (w : World) :
    Calls Tryd.prog 19 #[.int .u16 x] w fun e w' => e = .returned (polyV (x / 64 % 8) (x / 512 % 8) (x % 8) (x / 8 % 8) (x / 4096 % 8) false) ∧ Below w.heap.size w w' := by
  have e1 := and7 (x / 64) (by omega) (by omega)
  have e2 := and7 (x / 512) (by omega) (by omega)
  have e3 := and7 x (by omega) (by omega)
  have e4 := and7 (x / 8) (by omega) (by omega)
  have e5 := and7 (x / 4096) (by omega) (by omega)
  have hca := Lib.hid (castle_any (x / 64 % 8) (x / 512 % 8) (x % 8) (x / 8 % 8) h)
  clear h
  go_enter Tryd.func19, Tryd.ntmps19
  go_wp2_with (go_at_call 34; refine (hca.out _).mono ?_; rintro e w' ⟨rfl, rfl⟩)
  exact bodyPost_ret (v := polyV (x / 64 % 8) (x / 512 % 8) (x % 8) (x / 8 % 8) (x / 4096 % 8) false) (by simp [results, Tryd.results19, go_sem, polyV]) rfl ⟨rfl, (Below.refl _ _).alloc (Nat.le_refl _) _⟩
theorem plainPoly_any (a b c d p : Int) (k : Bool) (w : World) :
    Calls Tryd.prog 18 #[polyV a b c d p k] w fun e w' => e = .returned (polyV a b c d p k) ∧ Below w.heap.size w w' := by
  unfold polyV
  go_enter Tryd.func18, Tryd.ntmps18
  go_wp2
  exact bodyPost_ret (v := polyV a b c d p k) (by simp [results, Tryd.results18, go_sem, polyV]) rfl ⟨rfl, ((Below.refl _ _).alloc (Nat.le_refl _) _).alloc (by simp) _⟩
theorem poly_any (a b c d p : Int) (k : Bool) (w : World) :
    Calls Tryd.prog 14 #[polyV a b c d p k] w fun e w' => e = .returned (polyV a b c d p k) ∧ Below w.heap.size w w' := by
  unfold polyV
  go_enter Tryd.func14, Tryd.ntmps14
  go_wp2
  exact bodyPost_ret (v := polyV a b c d p k) (by simp [results, Tryd.results14, go_sem, polyV]) rfl ⟨rfl, ((Below.refl _ _).alloc (Nat.le_refl _) _).alloc (by simp) _⟩
theorem decoded_any (x : Int) (h0 : 0 ≤ x) (h1 : x < 65536) (h : ¬ (x / 64 % 8 = 4 ∧ (x / 512 % 8 = 0 ∨ x / 512 % 8 = 7))) (w : World) :
    Calls Tryd.prog 7 #[.int .u16 x] w fun e w' => e = .returned (polyV (x / 64 % 8) (x / 512 % 8) (x % 8) (x / 8 % 8) (x / 4096 % 8) false) ∧ Below w.heap.size w w' := by
  have hd := Lib.hid (decodeMove_any x h0 h1 h)
  have hp := Lib.hid (plainPoly_any (x / 64 % 8) (x / 512 % 8) (x % 8) (x / 8 % 8) (x / 4096 % 8) false)
  clear h
  have hr0 := row_lit w #[.int .i64 0, .int .i64 0, .int .i64 0, .int .i64 0, .int .i64 0, .bool false] 29
  have hb0 : Below w.heap.size w (w.alloc (.cells #[.int .i64 0, .int .i64 0, .int .i64 0, .int .i64 0, .int .i64 0, .bool false] 29)) := (Below.refl _ _).alloc (Nat.le_refl _) _
  go_enter Tryd.func7, Tryd.ntmps7
  go_wp2_with (fail)
  generalize (w.alloc (.cells #[.int .i64 0, .int .i64 0, .int .i64 0, .int .i64 0, .int .i64 0, .bool false] 29)) = w0 at *
  refine (hd.out _).mono ?_
  rintro e w1 ⟨rfl, hb1⟩
  go_wp2_with (fail)
  refine (hp.out _).mono ?_
  rintro e w2 ⟨rfl, hb2⟩
  have hb3 := hb1.trans (hb2.mono hb1.size)
  have hr2 := rowIs_below hr0 hb3 hr0.lt
  unfold polyV
  go_wp2_with (refine wpList_store_mid rfl 29 _ _ rfl w.heap.size 0 _ rfl rfl (rowIs_there hr2) (by kernel_rfl) (by simp [Value.oneCell']) ?_)
  have hr3 := row_store hr2 #[.int .i64 (x / 64 % 8), .int .i64 (x / 512 % 8), .int .i64 (x % 8), .int .i64 (x / 8 % 8), .int .i64 (x / 4096 % 8), .bool false] rfl
  have hB := below_setCells (Nat.le_refl _) [.int .i64 (x / 64 % 8), .int .i64 (x / 512 % 8), .int .i64 (x % 8), .int .i64 (x / 8 % 8), .int .i64 (x / 4096 % 8), .bool false] 0 _ (hb0.trans (hb3.mono hb0.size))
  have d0 := hr3.cell (i := 0) (by simp)
  have d1 := hr3.cell (i := 1) (by simp)
  have d2 := hr3.cell (i := 2) (by simp)
  have d3 := hr3.cell (i := 3) (by simp)
  have d4 := hr3.cell (i := 4) (by simp)
  have d5 := hr3.cell (i := 5) (by simp)
  exact bodyPost_ret (v := polyV (x / 64 % 8) (x / 512 % 8) (x % 8) (x / 8 % 8) (x / 4096 % 8) false) (by simp [results, Tryd.results7, go_sem, polyV, d0, d1, d2, d3, d4, d5]) rfl ⟨rfl, hB⟩
end Go.Proofs.YtoigijloeillbaaDoor

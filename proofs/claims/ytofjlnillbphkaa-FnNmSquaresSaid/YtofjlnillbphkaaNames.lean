/- The names of squares: contracts of the program's functions, square by square. -/
import Derived.Test.YtofjlnillbphkaaBase
namespace Go.Proofs.Ytofjlnillbphkaa
open Go.ChangeShapes Go.WideShapes Go.ChangeAt Go.RowKit
set_option maxHeartbeats 4000000
set_option linter.unusedVariables false
set_option linter.unusedSimpArgs false

def fileS (f : Int) : ByteArray := ⟨#[UInt8.ofNat (97 + f.toNat)]⟩
def rankS (r : Int) : ByteArray := ⟨#[UInt8.ofNat (49 + r.toNat)]⟩
def sqName (s : Int) : ByteArray := ⟨#[UInt8.ofNat (97 + (s % 8).toNat), UInt8.ofNat (49 + (s / 8).toNat)]⟩
theorem square_any (s : Int) (h0 : 0 ≤ s) (h1 : s < 64) (w : World) :
    Calls Try.prog 14 #[.int .i64 s] w fun e w' => e = .returned (.int .i8 s) ∧ w = w' := by
  go_enter Try.func14, Try.ntmps14
  go_wp2
  go_ret
  exact ⟨rfl, rfl⟩
theorem ret_int {k : IntKind} {a b : Int} (h : a = b) : Ending.returned (Value.int k a) = .returned (.int k b) := by rw [h]
theorem sqFile_any (s : Int) (h0 : 0 ≤ s) (h1 : s < 64) (w : World) :
    Calls Try.prog 21 #[.int .i8 s] w fun e w' => e = .returned (.int .i8 (s % 8)) ∧ w = w' := by
  go_enter Try.func21, Try.ntmps21
  go_wp2
  go_ret
  exact ⟨rfl, rfl⟩
theorem sqRank_any (s : Int) (h0 : 0 ≤ s) (h1 : s < 64) (w : World) :
    Calls Try.prog 23 #[.int .i8 s] w fun e w' => e = .returned (.int .i8 (s / 8)) ∧ w = w' := by
  go_enter Try.func23, Try.ntmps23
  go_wp2
  go_ret
  exact ⟨ret_int (by rw [Int.tdiv_eq_ediv_of_nonneg h0]; exact IntWalk.i8_in _ (by omega)), rfl⟩
theorem fileStr_any (f : Int) (h0 : 0 ≤ f) (h1 : f < 8) (w : World) :
    Calls Try.prog 22 #[.int .i8 f] w fun e w' => e = .returned (.string (fileS f)) ∧ w = w' := by
  have h : f = 0 ∨ f = 1 ∨ f = 2 ∨ f = 3 ∨ f = 4 ∨ f = 5 ∨ f = 6 ∨ f = 7 := by omega
  rcases h with rfl | rfl | rfl | rfl | rfl | rfl | rfl | rfl
  all_goals
    go_enter Try.func22, Try.ntmps22
    go_wp2
    go_ret
    exact ⟨rfl, rfl⟩
theorem rankStr_any (f : Int) (h0 : 0 ≤ f) (h1 : f < 8) (w : World) :
    Calls Try.prog 24 #[.int .i8 f] w fun e w' => e = .returned (.string (rankS f)) ∧ w = w' := by
  have h : f = 0 ∨ f = 1 ∨ f = 2 ∨ f = 3 ∨ f = 4 ∨ f = 5 ∨ f = 6 ∨ f = 7 := by omega
  rcases h with rfl | rfl | rfl | rfl | rfl | rfl | rfl | rfl
  all_goals
    go_enter Try.func24, Try.ntmps24
    go_wp2
    go_ret
    exact ⟨rfl, rfl⟩
theorem sqStr_any (s : Int) (h0 : 0 ≤ s) (h1 : s < 64) (w : World) :
    Calls Try.prog 15 #[.int .i8 s] w fun e w' => e = .returned (.string (sqName s)) ∧ w = w' := by
  go_enter Try.func15, Try.ntmps15
  go_wp2_with (first | (go_at_call 21; refine (sqFile_any _ h0 h1 _).mono ?_; rintro e w' ⟨rfl, rfl⟩) | (go_at_call 23; refine (sqRank_any _ h0 h1 _).mono ?_; rintro e w' ⟨rfl, rfl⟩) | (go_at_call 22; refine (fileStr_any _ (by omega) (by omega) _).mono ?_; rintro e w' ⟨rfl, rfl⟩) | (go_at_call 24; refine (rankStr_any _ (by omega) (by omega) _).mono ?_; rintro e w' ⟨rfl, rfl⟩))
  go_ret
  exact ⟨rfl, rfl⟩
theorem newSquare_any (f r : Int) (h0 : 0 ≤ f) (h1 : f < 8) (h2 : 0 ≤ r) (h3 : r < 8) (w : World) :
    Calls Try.prog 17 #[.int .i8 f, .int .i8 r] w fun e w' => e = .returned (.int .i8 (8 * r + f)) ∧ w = w' := by
  go_enter Try.func17, Try.ntmps17
  go_wp2
  go_ret
  refine ⟨ret_int ?_, rfl⟩
  omega
theorem color_sq_any (s : Int) (h0 : 0 ≤ s) (h1 : s < 64) (w : World) :
    Calls Try.prog 25 #[.int .i8 s] w fun e w' => e = .returned (.int .i8 (if (s % 8 + s / 8) % 2 = 0 then 2 else 1)) ∧ w = w' := by
  have h : s = 0 ∨ s = 1 ∨ s = 2 ∨ s = 3 ∨ s = 4 ∨ s = 5 ∨ s = 6 ∨ s = 7 ∨ s = 8 ∨ s = 9 ∨ s = 10 ∨ s = 11 ∨ s = 12 ∨ s = 13 ∨ s = 14 ∨ s = 15 ∨ s = 16 ∨ s = 17 ∨ s = 18 ∨ s = 19 ∨ s = 20 ∨ s = 21 ∨ s = 22 ∨ s = 23 ∨ s = 24 ∨ s = 25 ∨ s = 26 ∨ s = 27 ∨ s = 28 ∨ s = 29 ∨ s = 30 ∨ s = 31 ∨ s = 32 ∨ s = 33 ∨ s = 34 ∨ s = 35 ∨ s = 36 ∨ s = 37 ∨ s = 38 ∨ s = 39 ∨ s = 40 ∨ s = 41 ∨ s = 42 ∨ s = 43 ∨ s = 44 ∨ s = 45 ∨ s = 46 ∨ s = 47 ∨ s = 48 ∨ s = 49 ∨ s = 50 ∨ s = 51 ∨ s = 52 ∨ s = 53 ∨ s = 54 ∨ s = 55 ∨ s = 56 ∨ s = 57 ∨ s = 58 ∨ s = 59 ∨ s = 60 ∨ s = 61 ∨ s = 62 ∨ s = 63 := by omega
  rcases h with rfl | rfl | rfl | rfl | rfl | rfl | rfl | rfl | rfl | rfl | rfl | rfl | rfl | rfl | rfl | rfl | rfl | rfl | rfl | rfl | rfl | rfl | rfl | rfl | rfl | rfl | rfl | rfl | rfl | rfl | rfl | rfl | rfl | rfl | rfl | rfl | rfl | rfl | rfl | rfl | rfl | rfl | rfl | rfl | rfl | rfl | rfl | rfl | rfl | rfl | rfl | rfl | rfl | rfl | rfl | rfl | rfl | rfl | rfl | rfl | rfl | rfl | rfl | rfl
  all_goals
    go_enter Try.func25, Try.ntmps25
    go_wp2
    go_ret
    exact ⟨rfl, rfl⟩
end Go.Proofs.Ytofjlnillbphkaa

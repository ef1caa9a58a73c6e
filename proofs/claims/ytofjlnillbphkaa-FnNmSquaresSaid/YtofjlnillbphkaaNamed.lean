/- A square's name is read as the square. -/
import Derived.Test.YtofjlnillbphkaaNames
import Derived.PlainAid
namespace Go.Proofs.Ytofjlnillbphkaa
open Go.ChangeShapes Go.WideShapes Go.ChangeAt Go.RowKit Go.PlainAid
set_option maxHeartbeats 1000000
set_option linter.unusedVariables false
set_option linter.unusedSimpArgs false
theorem strToSquare_any (s : ByteArray) (hsz : s.size = 2) (h0 : 97 ≤ bt s 0) (h1 : bt s 0 ≤ 104) (h2 : 49 ≤ bt s 1) (h3 : bt s 1 ≤ 56) (w : World) :
    Calls Try.prog 26 #[.string s] w fun e w' => e = .returned (.int .i8 (8 * (bt s 1 - 49) + (bt s 0 - 97))) ∧ ∃ n, w' = w.drewN n := by
  have hb := get_bt s
  generalize bt s = b at *
  generalize hc0 : b 0 = c0 at *
  generalize hc1 : b 1 = c1 at *
  go_enter Try.func26, Try.ntmps26
  go_wp2
  have e0 : IntKind.u8.wrap (c0 - 97) = c0 - 97 := IntWalk.u8_in _ (by omega)
  have e1 : IntKind.u8.wrap (c1 - 49) = c1 - 49 := IntWalk.u8_in _ (by omega)
  have e2 : IntKind.i8.wrap (c0 - 97) = c0 - 97 := IntWalk.i8_in _ (by omega)
  have e3 : IntKind.i8.wrap (c1 - 49) = c1 - 49 := IntWalk.i8_in _ (by omega)
  go_quiet ((go_at_call 17; exact q_of (newSquare_any _ _ (by omega) (by omega) (by omega) (by omega) _)))
  go_wp2
  go_ret
  exact ⟨rfl, nq, rfl⟩
end Go.Proofs.Ytofjlnillbphkaa

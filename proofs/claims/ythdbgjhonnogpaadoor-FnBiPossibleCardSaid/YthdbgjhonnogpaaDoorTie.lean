/-
  DERIVED. GIVEN WITH THE SEED: THE PROGRAM's TIES (one call each: nine closed facts by the kernel) AND EACH ROW's TIE, after the 31st guide's Derived/Test/Toyas{Tie, Card}.lean. No idea stands in it: it is a product of the set-up. Laid BY PROGRAM, IN A SANDBOX (cutbox-door.mjs). By AI agents, Wed Nov 11 2026. No macro, syntax, notation, axiom, sorry.
-/
import Derived.Test.YthdbgjhonnogpaaDoorRows
import Derived.LaidByTextLater
import Derived.SevenTiedAt
import Derived.LaidSub
import Derived.LaidOnce
namespace Go.Proofs.YthdbgjhonnogpaaDoor
open Go
set_option maxRecDepth 100000
theorem seatTie1 : Tryd.prog.laidByTextLater [("pub-fianchetto/pub/chess.bbFiles", Rows.laid_pub_fianchetto_pub_chess_bbFiles), ("pub-fianchetto/pub/chess.bbRanks", Rows.laid_pub_fianchetto_pub_chess_bbRanks), ("pub-fianchetto/pub/chess.bbDiagonals", Rows.laid_pub_fianchetto_pub_chess_bbDiagonals), ("pub-fianchetto/pub/chess.bbAntiDiagonals", Rows.laid_pub_fianchetto_pub_chess_bbAntiDiagonals), ("pub-fianchetto/pub/chess.bbKnightMoves", Rows.laid_pub_fianchetto_pub_chess_bbKnightMoves), ("pub-fianchetto/pub/chess.bbKingMoves", Rows.laid_pub_fianchetto_pub_chess_bbKingMoves), ("pub-fianchetto/pub/chess.allPieces", Rows.laid_pub_fianchetto_pub_chess_allPieces)] [.data, .data, .data, .data, .data, .data, .data] true :=
  Program.laidByTextLater_by_one 44 8 65 (by kernel_rfl) (by kernel_rfl) (by kernel_rfl) (by kernel_rfl) (by kernel_rfl) (by kernel_rfl) (fun _ _ => by kernel_rfl)
theorem noOwnUnsafe : Tryd.pinned.checked.prog.headLifts.contains "ownunsafe" = false := by kernel_rfl
theorem tie : Tryd.prog.laidByTextLater [("pub-fianchetto/pub/chess.bbFiles", Rows.laid_pub_fianchetto_pub_chess_bbFiles), ("pub-fianchetto/pub/chess.bbRanks", Rows.laid_pub_fianchetto_pub_chess_bbRanks), ("pub-fianchetto/pub/chess.bbDiagonals", Rows.laid_pub_fianchetto_pub_chess_bbDiagonals), ("pub-fianchetto/pub/chess.bbAntiDiagonals", Rows.laid_pub_fianchetto_pub_chess_bbAntiDiagonals), ("pub-fianchetto/pub/chess.bbKnightMoves", Rows.laid_pub_fianchetto_pub_chess_bbKnightMoves), ("pub-fianchetto/pub/chess.bbKingMoves", Rows.laid_pub_fianchetto_pub_chess_bbKingMoves), ("pub-fianchetto/pub/chess.allPieces", Rows.laid_pub_fianchetto_pub_chess_allPieces)] [.data, .data, .data, .data, .data, .data, .data] true :=
  Program.laidByTextLater.sub seatTie1 ["pub-fianchetto/pub/chess.bbFiles", "pub-fianchetto/pub/chess.bbRanks", "pub-fianchetto/pub/chess.bbDiagonals", "pub-fianchetto/pub/chess.bbAntiDiagonals", "pub-fianchetto/pub/chess.bbKnightMoves", "pub-fianchetto/pub/chess.bbKingMoves", "pub-fianchetto/pub/chess.allPieces"] (by kernel_rfl) (by kernel_rfl)
theorem fnMvCheck_row_tie : Rows.fnMvCheckRow.laidByTextAt .later Tryd.pinned [.data, .data, .data, .data, .data, .data, .data] true :=
  OpenClaim.laidByTextAt_later rfl rfl tie noOwnUnsafe
theorem fnBiPossible_row_tie : Rows.fnBiPossibleRow.laidByTextAt .later Tryd.pinned [.data, .data, .data, .data, .data, .data, .data] true :=
  OpenClaim.laidByTextAt_later rfl rfl tie noOwnUnsafe
theorem fnMvCheckUpto_row_tie : Rows.fnMvCheckUptoRow.laidByTextAt .later Tryd.pinned [.data, .data, .data, .data, .data, .data, .data] true :=
  OpenClaim.laidByTextAt_later rfl rfl tie noOwnUnsafe
theorem fnBiPossibleUpto_row_tie : Rows.fnBiPossibleUptoRow.laidByTextAt .later Tryd.pinned [.data, .data, .data, .data, .data, .data, .data] true :=
  OpenClaim.laidByTextAt_later rfl rfl tie noOwnUnsafe
end Go.Proofs.YthdbgjhonnogpaaDoor

/-
  DERIVED. GIVEN WITH THE SEED: THE PROGRAM's TIES (one call each: nine closed facts by the kernel) AND EACH ROW's TIE, after the 31st guide's Derived/Test/Toyas{Tie, Card}.lean. No idea stands in it: it is a product of the set-up. Laid BY PROGRAM, IN A SANDBOX (cutbox-door.mjs). By AI agents, Wed Nov 11 2026. No macro, syntax, notation, axiom, sorry.
-/
import Derived.Test.YtnlicbhelnocpaaDoorRows
import Derived.LaidByTextLater
import Derived.SevenTiedAt
import Derived.LaidSub
import Derived.LaidOnce
namespace Go.Proofs.YtnlicbhelnocpaaDoor
open Go
set_option maxRecDepth 100000
theorem seatTie1 : Tryd.prog.laidByTextLater [("pub-fianchetto/pub/chess.fenCharToPiece", Rows.laid_pub_fianchetto_pub_chess_fenCharToPiece), ("pub-fianchetto/pub/chess.allPieces", Rows.laid_pub_fianchetto_pub_chess_allPieces), ("pub-fianchetto/pub/chess.pieceUnicodes", Rows.laid_pub_fianchetto_pub_chess_pieceUnicodes), ("pub-fianchetto/pub/chess.pieceDarkUnicodes", Rows.laid_pub_fianchetto_pub_chess_pieceDarkUnicodes)] [.data, .data, .data, .data] true :=
  Program.laidByTextLater_by_one 59 8 129 (by kernel_rfl) (by kernel_rfl) (by kernel_rfl) (by kernel_rfl) (by kernel_rfl) (by kernel_rfl) (fun _ _ => by kernel_rfl)
theorem seatTie2 : Tryd.prog.laidByTextLater [("pub-fianchetto/pub/chess.bbFiles", Rows.laid_pub_fianchetto_pub_chess_bbFiles), ("pub-fianchetto/pub/chess.bbRanks", Rows.laid_pub_fianchetto_pub_chess_bbRanks), ("pub-fianchetto/pub/chess.bbDiagonals", Rows.laid_pub_fianchetto_pub_chess_bbDiagonals), ("pub-fianchetto/pub/chess.bbAntiDiagonals", Rows.laid_pub_fianchetto_pub_chess_bbAntiDiagonals), ("pub-fianchetto/pub/chess.bbKnightMoves", Rows.laid_pub_fianchetto_pub_chess_bbKnightMoves), ("pub-fianchetto/pub/chess.bbKingMoves", Rows.laid_pub_fianchetto_pub_chess_bbKingMoves), ("pub-fianchetto/pub/chess.allPieces", Rows.laid_pub_fianchetto_pub_chess_allPieces)] [.data, .data, .data, .data, .data, .data, .data] true :=
  Program.laidByTextLater_by_one 59 8 129 (by kernel_rfl) (by kernel_rfl) (by kernel_rfl) (by kernel_rfl) (by kernel_rfl) (by kernel_rfl) (fun _ _ => by kernel_rfl)
theorem noOwnUnsafe : Tryd.pinned.checked.prog.headLifts.contains "ownunsafe" = false := by kernel_rfl
theorem tie : Tryd.prog.laidByTextLater [("pub-fianchetto/pub/chess.allPieces", Rows.laid_pub_fianchetto_pub_chess_allPieces)] [.data] true :=
  Program.laidByTextLater.sub seatTie1 ["pub-fianchetto/pub/chess.allPieces"] (by kernel_rfl) (by kernel_rfl)
theorem fnBdWrong_row_tie : Rows.fnBdWrongRow.laidByTextAt .later Tryd.pinned [.data] true :=
  OpenClaim.laidByTextAt_later rfl rfl tie noOwnUnsafe
theorem fnMvSuffices_row_tie : Rows.fnMvSufficesRow.laidByTextAt .later Tryd.pinned [.data] true :=
  OpenClaim.laidByTextAt_later rfl rfl tie noOwnUnsafe
theorem tie2 : Tryd.prog.laidByTextLater [("pub-fianchetto/pub/chess.allPieces", Rows.laid_pub_fianchetto_pub_chess_allPieces), ("pub-fianchetto/pub/chess.pieceUnicodes", Rows.laid_pub_fianchetto_pub_chess_pieceUnicodes), ("pub-fianchetto/pub/chess.pieceDarkUnicodes", Rows.laid_pub_fianchetto_pub_chess_pieceDarkUnicodes)] [.data, .data, .data] true :=
  Program.laidByTextLater.sub seatTie1 ["pub-fianchetto/pub/chess.allPieces", "pub-fianchetto/pub/chess.pieceUnicodes", "pub-fianchetto/pub/chess.pieceDarkUnicodes"] (by kernel_rfl) (by kernel_rfl)
theorem fnBdDraw_row_tie : Rows.fnBdDrawRow.laidByTextAt .later Tryd.pinned [.data, .data, .data] true :=
  OpenClaim.laidByTextAt_later rfl rfl tie2 noOwnUnsafe
theorem tie3 : Tryd.prog.laidByTextLater [("pub-fianchetto/pub/chess.fenCharToPiece", Rows.laid_pub_fianchetto_pub_chess_fenCharToPiece), ("pub-fianchetto/pub/chess.allPieces", Rows.laid_pub_fianchetto_pub_chess_allPieces)] [.data, .data] true :=
  Program.laidByTextLater.sub seatTie1 ["pub-fianchetto/pub/chess.fenCharToPiece", "pub-fianchetto/pub/chess.allPieces"] (by kernel_rfl) (by kernel_rfl)
theorem fnBdRead_row_tie : Rows.fnBdReadRow.laidByTextAt .later Tryd.pinned [.data, .data] true :=
  OpenClaim.laidByTextAt_later rfl rfl tie3 noOwnUnsafe
theorem tie4 : Tryd.prog.laidByTextLater [("pub-fianchetto/pub/chess.bbFiles", Rows.laid_pub_fianchetto_pub_chess_bbFiles), ("pub-fianchetto/pub/chess.bbRanks", Rows.laid_pub_fianchetto_pub_chess_bbRanks), ("pub-fianchetto/pub/chess.bbDiagonals", Rows.laid_pub_fianchetto_pub_chess_bbDiagonals), ("pub-fianchetto/pub/chess.bbAntiDiagonals", Rows.laid_pub_fianchetto_pub_chess_bbAntiDiagonals), ("pub-fianchetto/pub/chess.bbKnightMoves", Rows.laid_pub_fianchetto_pub_chess_bbKnightMoves), ("pub-fianchetto/pub/chess.bbKingMoves", Rows.laid_pub_fianchetto_pub_chess_bbKingMoves), ("pub-fianchetto/pub/chess.allPieces", Rows.laid_pub_fianchetto_pub_chess_allPieces)] [.data, .data, .data, .data, .data, .data, .data] true :=
  Program.laidByTextLater.sub seatTie2 ["pub-fianchetto/pub/chess.bbFiles", "pub-fianchetto/pub/chess.bbRanks", "pub-fianchetto/pub/chess.bbDiagonals", "pub-fianchetto/pub/chess.bbAntiDiagonals", "pub-fianchetto/pub/chess.bbKnightMoves", "pub-fianchetto/pub/chess.bbKingMoves", "pub-fianchetto/pub/chess.allPieces"] (by kernel_rfl) (by kernel_rfl)
theorem fnMvCheck_row_tie : Rows.fnMvCheckRow.laidByTextAt .later Tryd.pinned [.data, .data, .data, .data, .data, .data, .data] true :=
  OpenClaim.laidByTextAt_later rfl rfl tie4 noOwnUnsafe
theorem fnBiPossible_row_tie : Rows.fnBiPossibleRow.laidByTextAt .later Tryd.pinned [.data, .data, .data, .data, .data, .data, .data] true :=
  OpenClaim.laidByTextAt_later rfl rfl tie4 noOwnUnsafe
theorem fnBdWrongUpto_row_tie : Rows.fnBdWrongUptoRow.laidByTextAt .later Tryd.pinned [.data] true :=
  OpenClaim.laidByTextAt_later rfl rfl tie noOwnUnsafe
theorem fnMvSufficesUpto_row_tie : Rows.fnMvSufficesUptoRow.laidByTextAt .later Tryd.pinned [.data] true :=
  OpenClaim.laidByTextAt_later rfl rfl tie noOwnUnsafe
theorem fnBdDrawUpto_row_tie : Rows.fnBdDrawUptoRow.laidByTextAt .later Tryd.pinned [.data, .data, .data] true :=
  OpenClaim.laidByTextAt_later rfl rfl tie2 noOwnUnsafe
theorem fnBdReadUpto_row_tie : Rows.fnBdReadUptoRow.laidByTextAt .later Tryd.pinned [.data, .data] true :=
  OpenClaim.laidByTextAt_later rfl rfl tie3 noOwnUnsafe
theorem fnMvCheckUpto_row_tie : Rows.fnMvCheckUptoRow.laidByTextAt .later Tryd.pinned [.data, .data, .data, .data, .data, .data, .data] true :=
  OpenClaim.laidByTextAt_later rfl rfl tie4 noOwnUnsafe
theorem fnBiPossibleUpto_row_tie : Rows.fnBiPossibleUptoRow.laidByTextAt .later Tryd.pinned [.data, .data, .data, .data, .data, .data, .data] true :=
  OpenClaim.laidByTextAt_later rfl rfl tie4 noOwnUnsafe
end Go.Proofs.YtnlicbhelnocpaaDoor

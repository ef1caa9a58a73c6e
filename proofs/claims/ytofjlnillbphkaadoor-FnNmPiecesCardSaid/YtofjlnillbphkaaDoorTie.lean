/-
  DERIVED. GIVEN WITH THE SEED: THE PROGRAM's TIES (one call each: nine closed facts by the kernel) AND EACH ROW's TIE, after the 31st guide's Derived/Test/Toyas{Tie, Card}.lean. No idea stands in it: it is a product of the set-up. Laid BY PROGRAM, IN A SANDBOX (cutbox-door.mjs). By AI agents, Wed Nov 11 2026. No macro, syntax, notation, axiom, sorry.
-/
import Derived.Test.YtofjlnillbphkaaDoorRows
import Derived.LaidByTextLater
import Derived.SevenTiedAt
import Derived.LaidSub
import Derived.LaidOnce
namespace Go.Proofs.YtofjlnillbphkaaDoor
open Go
set_option maxRecDepth 100000
theorem seatTie1 : Tryd.prog.laidByTextLater [("pub-fianchetto/pub/chess.bbFiles", Rows.laid_pub_fianchetto_pub_chess_bbFiles), ("pub-fianchetto/pub/chess.bbRanks", Rows.laid_pub_fianchetto_pub_chess_bbRanks), ("pub-fianchetto/pub/chess.bbDiagonals", Rows.laid_pub_fianchetto_pub_chess_bbDiagonals), ("pub-fianchetto/pub/chess.bbAntiDiagonals", Rows.laid_pub_fianchetto_pub_chess_bbAntiDiagonals), ("pub-fianchetto/pub/chess.whitePiecesToFEN", Rows.laid_pub_fianchetto_pub_chess_whitePiecesToFEN), ("pub-fianchetto/pub/chess.blackPiecesToFEN", Rows.laid_pub_fianchetto_pub_chess_blackPiecesToFEN), ("pub-fianchetto/pub/chess.allPieces", Rows.laid_pub_fianchetto_pub_chess_allPieces)] [.data, .data, .data, .data, .data, .data, .data] true :=
  Program.laidByTextLater_by_one 44 8 65 (by kernel_rfl) (by kernel_rfl) (by kernel_rfl) (by kernel_rfl) (by kernel_rfl) (by kernel_rfl) (fun _ _ => by kernel_rfl)
theorem noOwnUnsafe : Tryd.pinned.checked.prog.headLifts.contains "ownunsafe" = false := by kernel_rfl
theorem tie : Tryd.prog.laidByTextLater [("pub-fianchetto/pub/chess.bbFiles", Rows.laid_pub_fianchetto_pub_chess_bbFiles), ("pub-fianchetto/pub/chess.bbRanks", Rows.laid_pub_fianchetto_pub_chess_bbRanks), ("pub-fianchetto/pub/chess.bbDiagonals", Rows.laid_pub_fianchetto_pub_chess_bbDiagonals), ("pub-fianchetto/pub/chess.bbAntiDiagonals", Rows.laid_pub_fianchetto_pub_chess_bbAntiDiagonals)] [.data, .data, .data, .data] true :=
  Program.laidByTextLater.sub seatTie1 ["pub-fianchetto/pub/chess.bbFiles", "pub-fianchetto/pub/chess.bbRanks", "pub-fianchetto/pub/chess.bbDiagonals", "pub-fianchetto/pub/chess.bbAntiDiagonals"] (by kernel_rfl) (by kernel_rfl)
theorem fnBiAttacks_row_tie : Rows.fnBiAttacksRow.laidByTextAt .later Tryd.pinned [.data, .data, .data, .data] true :=
  OpenClaim.laidByTextAt_later rfl rfl tie noOwnUnsafe
theorem tie2 : Tryd.prog.laidByTextLater [("pub-fianchetto/pub/chess.whitePiecesToFEN", Rows.laid_pub_fianchetto_pub_chess_whitePiecesToFEN), ("pub-fianchetto/pub/chess.blackPiecesToFEN", Rows.laid_pub_fianchetto_pub_chess_blackPiecesToFEN), ("pub-fianchetto/pub/chess.allPieces", Rows.laid_pub_fianchetto_pub_chess_allPieces)] [.data, .data, .data] true :=
  Program.laidByTextLater.sub seatTie1 ["pub-fianchetto/pub/chess.whitePiecesToFEN", "pub-fianchetto/pub/chess.blackPiecesToFEN", "pub-fianchetto/pub/chess.allPieces"] (by kernel_rfl) (by kernel_rfl)
theorem fnNmPieces_row_tie : Rows.fnNmPiecesRow.laidByTextAt .later Tryd.pinned [.data, .data, .data] true :=
  OpenClaim.laidByTextAt_later rfl rfl tie2 noOwnUnsafe
theorem fnBiAttacksUpto_row_tie : Rows.fnBiAttacksUptoRow.laidByTextAt .later Tryd.pinned [.data, .data, .data, .data] true :=
  OpenClaim.laidByTextAt_later rfl rfl tie noOwnUnsafe
theorem fnNmPiecesUpto_row_tie : Rows.fnNmPiecesUptoRow.laidByTextAt .later Tryd.pinned [.data, .data, .data] true :=
  OpenClaim.laidByTextAt_later rfl rfl tie2 noOwnUnsafe
end Go.Proofs.YtofjlnillbphkaaDoor

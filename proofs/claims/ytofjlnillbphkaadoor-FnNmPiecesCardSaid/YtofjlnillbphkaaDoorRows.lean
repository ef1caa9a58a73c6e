/-
  NARROWER THAN 'FOR EVERY INPUT', by the rows' own cells (each row's printed sentence says how): FnBiAttacks: laid · FnNmPieces: laid.
  DERIVED. THE GIVEN ROWS OF THIS SEAT. 2 by the template 'for every input the law returns true; each argument reads behind the call as it read before'; 0 by the template 'total and deterministic' (their statements: YtofjlnillbphkaaDoorTotals.lean).
  GIVEN WITH THE SEED: the statements are not yours to turn. If you find one false, say at which input.
  Laid BY PROGRAM, IN A SANDBOX (cutbox-rows.mjs): the forced cells as the released guide's own fill.sh prints them over the translation 55eabbedc1038508… (all of the seat's roots in one cut). By AI agents, Wed Nov 11 2026. No macro, syntax, notation, axiom, sorry.
-/
import Derived.Test.YtofjlnillbphkaaDoorChecked
import GoSem.Claim
import GoSem.ClaimJoined
import GoSem.ClaimMapViews
import Derived.JoinedTies
import Derived.KernelRfl
namespace Go.Proofs.YtofjlnillbphkaaDoor
/- THE CELL 'sum', in the pinned program and in every row, IS THE sha256 OF THE DUMP (.gsa) THAT YtofjlnillbphkaaDoorProg.lean LOADS. Nothing in Lean hashes anything: it is a label: what it is worth is what the hold of that sum in a sandbox is worth. -/
noncomputable def Tryd.pinned : Pinned := { name := "ytofjlnillbphkaadoor", sum := "55eabbedc103850888b6dbbd2b6571d89badd08d329a2cea1081b76c62fc7d3e", checked := Tryd.checked }
namespace Rows
def none {H : Type} : Left H := { results := [], args := [] }

/- WHAT THE LISTED PACKAGE-LEVEL VARIABLES READ AS WHEN THE CALL BEGINS. Each datum BY PROGRAM (the guide's laid-datum.mjs) off the statement by which the dump's own 'gosem.cut.vars' lays the variable. In a bare row this is a premise. The card (YtofjlnillbphkaaDoorCards.lean) ties it to the program's text. -/
def laid_pub_fianchetto_pub_chess_bbFiles {H : Type} : DataW H := .agg [.lit (.int .u64 9259542123273814144), .lit (.int .u64 4629771061636907072), .lit (.int .u64 2314885530818453536), .lit (.int .u64 1157442765409226768), .lit (.int .u64 578721382704613384), .lit (.int .u64 289360691352306692), .lit (.int .u64 144680345676153346), .lit (.int .u64 72340172838076673)]
def laid_pub_fianchetto_pub_chess_bbRanks {H : Type} : DataW H := .agg [.lit (.int .u64 18374686479671623680), .lit (.int .u64 71776119061217280), .lit (.int .u64 280375465082880), .lit (.int .u64 1095216660480), .lit (.int .u64 4278190080), .lit (.int .u64 16711680), .lit (.int .u64 65280), .lit (.int .u64 255)]
def laid_pub_fianchetto_pub_chess_bbDiagonals {H : Type} : DataW H := .agg [.lit (.int .u64 9241421688590303745), .lit (.int .u64 4620710844295151872), .lit (.int .u64 2310355422147575808), .lit (.int .u64 1155177711073755136), .lit (.int .u64 577588855528488960), .lit (.int .u64 288794425616760832), .lit (.int .u64 144396663052566528), .lit (.int .u64 72057594037927936), .lit (.int .u64 36099303471055874), .lit (.int .u64 9241421688590303745), .lit (.int .u64 4620710844295151872), .lit (.int .u64 2310355422147575808), .lit (.int .u64 1155177711073755136), .lit (.int .u64 577588855528488960), .lit (.int .u64 288794425616760832), .lit (.int .u64 144396663052566528), .lit (.int .u64 141012904183812), .lit (.int .u64 36099303471055874), .lit (.int .u64 9241421688590303745), .lit (.int .u64 4620710844295151872), .lit (.int .u64 2310355422147575808), .lit (.int .u64 1155177711073755136), .lit (.int .u64 577588855528488960), .lit (.int .u64 288794425616760832), .lit (.int .u64 550831656968), .lit (.int .u64 141012904183812), .lit (.int .u64 36099303471055874), .lit (.int .u64 9241421688590303745), .lit (.int .u64 4620710844295151872), .lit (.int .u64 2310355422147575808), .lit (.int .u64 1155177711073755136), .lit (.int .u64 577588855528488960), .lit (.int .u64 2151686160), .lit (.int .u64 550831656968), .lit (.int .u64 141012904183812), .lit (.int .u64 36099303471055874), .lit (.int .u64 9241421688590303745), .lit (.int .u64 4620710844295151872), .lit (.int .u64 2310355422147575808), .lit (.int .u64 1155177711073755136), .lit (.int .u64 8405024), .lit (.int .u64 2151686160), .lit (.int .u64 550831656968), .lit (.int .u64 141012904183812), .lit (.int .u64 36099303471055874), .lit (.int .u64 9241421688590303745), .lit (.int .u64 4620710844295151872), .lit (.int .u64 2310355422147575808), .lit (.int .u64 32832), .lit (.int .u64 8405024), .lit (.int .u64 2151686160), .lit (.int .u64 550831656968), .lit (.int .u64 141012904183812), .lit (.int .u64 36099303471055874), .lit (.int .u64 9241421688590303745), .lit (.int .u64 4620710844295151872), .lit (.int .u64 128), .lit (.int .u64 32832), .lit (.int .u64 8405024), .lit (.int .u64 2151686160), .lit (.int .u64 550831656968), .lit (.int .u64 141012904183812), .lit (.int .u64 36099303471055874), .lit (.int .u64 9241421688590303745)]
def laid_pub_fianchetto_pub_chess_bbAntiDiagonals {H : Type} : DataW H := .agg [.lit (.int .u64 9223372036854775808), .lit (.int .u64 4647714815446351872), .lit (.int .u64 2323998145211531264), .lit (.int .u64 1161999622361579520), .lit (.int .u64 580999813328273408), .lit (.int .u64 290499906672525312), .lit (.int .u64 145249953336295424), .lit (.int .u64 72624976668147840), .lit (.int .u64 4647714815446351872), .lit (.int .u64 2323998145211531264), .lit (.int .u64 1161999622361579520), .lit (.int .u64 580999813328273408), .lit (.int .u64 290499906672525312), .lit (.int .u64 145249953336295424), .lit (.int .u64 72624976668147840), .lit (.int .u64 283691315109952), .lit (.int .u64 2323998145211531264), .lit (.int .u64 1161999622361579520), .lit (.int .u64 580999813328273408), .lit (.int .u64 290499906672525312), .lit (.int .u64 145249953336295424), .lit (.int .u64 72624976668147840), .lit (.int .u64 283691315109952), .lit (.int .u64 1108169199648), .lit (.int .u64 1161999622361579520), .lit (.int .u64 580999813328273408), .lit (.int .u64 290499906672525312), .lit (.int .u64 145249953336295424), .lit (.int .u64 72624976668147840), .lit (.int .u64 283691315109952), .lit (.int .u64 1108169199648), .lit (.int .u64 4328785936), .lit (.int .u64 580999813328273408), .lit (.int .u64 290499906672525312), .lit (.int .u64 145249953336295424), .lit (.int .u64 72624976668147840), .lit (.int .u64 283691315109952), .lit (.int .u64 1108169199648), .lit (.int .u64 4328785936), .lit (.int .u64 16909320), .lit (.int .u64 290499906672525312), .lit (.int .u64 145249953336295424), .lit (.int .u64 72624976668147840), .lit (.int .u64 283691315109952), .lit (.int .u64 1108169199648), .lit (.int .u64 4328785936), .lit (.int .u64 16909320), .lit (.int .u64 66052), .lit (.int .u64 145249953336295424), .lit (.int .u64 72624976668147840), .lit (.int .u64 283691315109952), .lit (.int .u64 1108169199648), .lit (.int .u64 4328785936), .lit (.int .u64 16909320), .lit (.int .u64 66052), .lit (.int .u64 258), .lit (.int .u64 72624976668147840), .lit (.int .u64 283691315109952), .lit (.int .u64 1108169199648), .lit (.int .u64 4328785936), .lit (.int .u64 16909320), .lit (.int .u64 66052), .lit (.int .u64 258), .lit (.int .u64 1)]
def laid_pub_fianchetto_pub_chess_whitePiecesToFEN {H : Type} : DataW H := .agg [.lit (.int .u8 0), .lit (.int .u8 75), .lit (.int .u8 81), .lit (.int .u8 82), .lit (.int .u8 66), .lit (.int .u8 78), .lit (.int .u8 80)]
def laid_pub_fianchetto_pub_chess_blackPiecesToFEN {H : Type} : DataW H := .agg [.lit (.int .u8 0), .lit (.int .u8 107), .lit (.int .u8 113), .lit (.int .u8 114), .lit (.int .u8 98), .lit (.int .u8 110), .lit (.int .u8 112)]
def laid_pub_fianchetto_pub_chess_allPieces {H : Type} : DataW H := .slice [.lit (.int .i8 1), .lit (.int .i8 2), .lit (.int .i8 3), .lit (.int .i8 4), .lit (.int .i8 5), .lit (.int .i8 6), .lit (.int .i8 7), .lit (.int .i8 8), .lit (.int .i8 9), .lit (.int .i8 10), .lit (.int .i8 11), .lit (.int .i8 12)] []

/-- 'laws.FnBiAttacks': WHATEVER THE INPUT: true; the input reads as it did. -/
def fnBiAttacksSpec : ChangeSpec := { name := "fnBiAttacks", fn := fun _ => fun
  | [d1, d2] => { results := [.lit (.bool true)], args := [d1, d2] }
  | _ => none }
def fnBiAttacksRow : OpenClaim := { program := "ytofjlnillbphkaadoor", sum := "55eabbedc103850888b6dbbd2b6571d89badd08d329a2cea1081b76c62fc7d3e", func := "pub-fianchetto/laws.FnBiAttacks", spec := "fnBiAttacks", unfollowed := true, recurses := true, named := ["pub-fianchetto/pub/chess.bbDiagonals", "pub-fianchetto/pub/chess.bbAntiDiagonals", "pub-fianchetto/pub/chess.bbRanks", "pub-fianchetto/pub/chess.bbFiles"], apart := false, laid := [("pub-fianchetto/pub/chess.bbFiles", laid_pub_fianchetto_pub_chess_bbFiles), ("pub-fianchetto/pub/chess.bbRanks", laid_pub_fianchetto_pub_chess_bbRanks), ("pub-fianchetto/pub/chess.bbDiagonals", laid_pub_fianchetto_pub_chess_bbDiagonals), ("pub-fianchetto/pub/chess.bbAntiDiagonals", laid_pub_fianchetto_pub_chess_bbAntiDiagonals)] }
def FnBiAttacksSaid : Prop := fnBiAttacksRow.holds Tryd.pinned (OpenSpec.ofChange fnBiAttacksSpec)

/-- ITS FALSE NEIGHBOUR: 'it returns false'. Refute it at one input. -/
def fnBiAttacksWrong : ChangeSpec := { name := "fnBiAttacks", fn := fun _ => fun
  | [d1, d2] => { results := [.lit (.bool false)], args := [d1, d2] }
  | _ => none }
def FnBiAttacksWrongFalsely : Prop := fnBiAttacksRow.holds Tryd.pinned (OpenSpec.ofChange fnBiAttacksWrong)

/-- 'laws.FnNmPieces': WHATEVER THE INPUT: true; the input reads as it did. -/
def fnNmPiecesSpec : ChangeSpec := { name := "fnNmPieces", fn := fun _ => fun
  | [d1, d2] => { results := [.lit (.bool true)], args := [d1, d2] }
  | _ => none }
def fnNmPiecesRow : OpenClaim := { program := "ytofjlnillbphkaadoor", sum := "55eabbedc103850888b6dbbd2b6571d89badd08d329a2cea1081b76c62fc7d3e", func := "pub-fianchetto/laws.FnNmPieces", spec := "fnNmPieces", unfollowed := true, recurses := true, named := ["pub-fianchetto/pub/chess.allPieces", "pub-fianchetto/pub/chess.whitePiecesToFEN", "pub-fianchetto/pub/chess.blackPiecesToFEN"], apart := false, laid := [("pub-fianchetto/pub/chess.whitePiecesToFEN", laid_pub_fianchetto_pub_chess_whitePiecesToFEN), ("pub-fianchetto/pub/chess.blackPiecesToFEN", laid_pub_fianchetto_pub_chess_blackPiecesToFEN), ("pub-fianchetto/pub/chess.allPieces", laid_pub_fianchetto_pub_chess_allPieces)] }
def FnNmPiecesSaid : Prop := fnNmPiecesRow.holds Tryd.pinned (OpenSpec.ofChange fnNmPiecesSpec)

/-- ITS FALSE NEIGHBOUR: 'it returns false'. Refute it at one input. -/
def fnNmPiecesWrong : ChangeSpec := { name := "fnNmPieces", fn := fun _ => fun
  | [d1, d2] => { results := [.lit (.bool false)], args := [d1, d2] }
  | _ => none }
def FnNmPiecesWrongFalsely : Prop := fnNmPiecesRow.holds Tryd.pinned (OpenSpec.ofChange fnNmPiecesWrong)

/- THE SECOND FORM. 'bulk': how many values and letters a reading holds, each counted each time it is reached (what is shared counts as often as it is met; a slice's spare places count too). A statement '..UptoSaid' is the law's where the arguments, and the package variables that the reading takes, are together of bulk at most 1048576: NARROWER than '..Said'. Prove '..Said' where nothing that the law and all that it calls make is longer than what came in: it says more and counts as full. Else prove '..UptoSaid'. A law counts once. -/
mutual
def uptoBulk {H : Type} : DataW H → Nat
  | .lit (.string bytes) => bytes.length + 1
  | .lit _ => 1
  | .nil => 1
  | .ptr d => uptoBulk d + 1
  | .slice elems spare => uptoBulkAll elems + uptoBulkAll spare + 1
  | .agg parts => uptoBulkAll parts + 1
  | .iface _ d => uptoBulk d + 1
  | .map entries => uptoBulkEntries entries + 1
  | .held _ => 1
def uptoBulkAll {H : Type} : List (DataW H) → Nat
  | [] => 0
  | d :: r => uptoBulk d + uptoBulkAll r
def uptoBulkEntries {H : Type} : List (Lit × DataW H) → Nat
  | [] => 0
  | x :: r => uptoBulkEntry x + uptoBulkEntries r
def uptoBulkEntry {H : Type} : Lit × DataW H → Nat
  | (.string bytes, d) => bytes.length + uptoBulk d + 1
  | (_, d) => uptoBulk d + 1
 end
def uptoSmall : (H : Type) → List (DataW H) → Bool := fun _ ds => decide (uptoBulkAll ds ≤ 1048576)
def OpenSpec.upto (s : _root_.Go.ChangeSpec) : _root_.Go.OpenSpec := { _root_.Go.OpenSpec.ofChange s with cond := some uptoSmall }

/-- 'laws.FnBiAttacks', WHERE WHAT IT READS IS OF BULK AT MOST 1048576: true; the input reads as it did. -/
def fnBiAttacksUptoRow : OpenClaim := { program := "ytofjlnillbphkaadoor", sum := "55eabbedc103850888b6dbbd2b6571d89badd08d329a2cea1081b76c62fc7d3e", func := "pub-fianchetto/laws.FnBiAttacks", spec := "fnBiAttacks", unfollowed := true, recurses := true, named := ["pub-fianchetto/pub/chess.bbDiagonals", "pub-fianchetto/pub/chess.bbAntiDiagonals", "pub-fianchetto/pub/chess.bbRanks", "pub-fianchetto/pub/chess.bbFiles"], apart := false, laid := [("pub-fianchetto/pub/chess.bbFiles", laid_pub_fianchetto_pub_chess_bbFiles), ("pub-fianchetto/pub/chess.bbRanks", laid_pub_fianchetto_pub_chess_bbRanks), ("pub-fianchetto/pub/chess.bbDiagonals", laid_pub_fianchetto_pub_chess_bbDiagonals), ("pub-fianchetto/pub/chess.bbAntiDiagonals", laid_pub_fianchetto_pub_chess_bbAntiDiagonals)], narrowed := true }
def FnBiAttacksUptoSaid : Prop := fnBiAttacksUptoRow.holds Tryd.pinned (OpenSpec.upto fnBiAttacksSpec)

/-- 'laws.FnNmPieces', WHERE WHAT IT READS IS OF BULK AT MOST 1048576: true; the input reads as it did. -/
def fnNmPiecesUptoRow : OpenClaim := { program := "ytofjlnillbphkaadoor", sum := "55eabbedc103850888b6dbbd2b6571d89badd08d329a2cea1081b76c62fc7d3e", func := "pub-fianchetto/laws.FnNmPieces", spec := "fnNmPieces", unfollowed := true, recurses := true, named := ["pub-fianchetto/pub/chess.allPieces", "pub-fianchetto/pub/chess.whitePiecesToFEN", "pub-fianchetto/pub/chess.blackPiecesToFEN"], apart := false, laid := [("pub-fianchetto/pub/chess.whitePiecesToFEN", laid_pub_fianchetto_pub_chess_whitePiecesToFEN), ("pub-fianchetto/pub/chess.blackPiecesToFEN", laid_pub_fianchetto_pub_chess_blackPiecesToFEN), ("pub-fianchetto/pub/chess.allPieces", laid_pub_fianchetto_pub_chess_allPieces)], narrowed := true }
def FnNmPiecesUptoSaid : Prop := fnNmPiecesUptoRow.holds Tryd.pinned (OpenSpec.upto fnNmPiecesSpec)

end Rows
end Go.Proofs.YtofjlnillbphkaaDoor

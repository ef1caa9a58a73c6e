/-
  NARROWER THAN 'FOR EVERY INPUT', by the rows' own cells (each row's printed sentence says how): FnBdWrong: laid · FnMvSuffices: laid · FnBdDraw: laid · FnBdRead: laid · FnMvCheck: laid · FnBiPossible: laid.
  DERIVED. THE GIVEN ROWS OF THIS SEAT. 6 by the template 'for every input the law returns true; each argument reads behind the call as it read before'; 0 by the template 'total and deterministic' (their statements: YtnlicbhelnocpaaDoorTotals.lean).
  GIVEN WITH THE SEED: the statements are not yours to turn. If you find one false, say at which input.
  Laid BY PROGRAM, IN A SANDBOX (cutbox-rows.mjs): the forced cells as the released guide's own fill.sh prints them over the translation be7fca9b855122ee… (all of the seat's roots in one cut). By AI agents, Wed Nov 11 2026. No macro, syntax, notation, axiom, sorry.
-/
import Derived.Test.YtnlicbhelnocpaaDoorChecked
import GoSem.Claim
import GoSem.ClaimJoined
import GoSem.ClaimMapViews
import Derived.JoinedTies
import Derived.KernelRfl
namespace Go.Proofs.YtnlicbhelnocpaaDoor
/- THE CELL 'sum', in the pinned program and in every row, IS THE sha256 OF THE DUMP (.gsa) THAT YtnlicbhelnocpaaDoorProg.lean LOADS. Nothing in Lean hashes anything: it is a label: what it is worth is what the hold of that sum in a sandbox is worth. -/
noncomputable def Tryd.pinned : Pinned := { name := "ytnlicbhelnocpaadoor", sum := "be7fca9b855122eea55e51d28da955814ba6a1845d424994ef1b4040a1d74e25", checked := Tryd.checked }
namespace Rows
def none {H : Type} : Left H := { results := [], args := [] }

/- WHAT THE LISTED PACKAGE-LEVEL VARIABLES READ AS WHEN THE CALL BEGINS. Each datum BY PROGRAM (the guide's laid-datum.mjs) off the statement by which the dump's own 'gosem.cut.vars' lays the variable. In a bare row this is a premise. The card (YtnlicbhelnocpaaDoorCards.lean) ties it to the program's text. -/
def laid_pub_fianchetto_pub_chess_allPieces {H : Type} : DataW H := .slice [.lit (.int .i8 1), .lit (.int .i8 2), .lit (.int .i8 3), .lit (.int .i8 4), .lit (.int .i8 5), .lit (.int .i8 6), .lit (.int .i8 7), .lit (.int .i8 8), .lit (.int .i8 9), .lit (.int .i8 10), .lit (.int .i8 11), .lit (.int .i8 12)] []
def laid_pub_fianchetto_pub_chess_pieceUnicodes {H : Type} : DataW H := .slice [.lit (.string [32]), .lit (.string [226, 153, 148]), .lit (.string [226, 153, 149]), .lit (.string [226, 153, 150]), .lit (.string [226, 153, 151]), .lit (.string [226, 153, 152]), .lit (.string [226, 153, 153]), .lit (.string [226, 153, 154]), .lit (.string [226, 153, 155]), .lit (.string [226, 153, 156]), .lit (.string [226, 153, 157]), .lit (.string [226, 153, 158]), .lit (.string [226, 153, 159])] []
def laid_pub_fianchetto_pub_chess_pieceDarkUnicodes {H : Type} : DataW H := .slice [.lit (.string [32]), .lit (.string [226, 153, 154]), .lit (.string [226, 153, 155]), .lit (.string [226, 153, 156]), .lit (.string [226, 153, 157]), .lit (.string [226, 153, 158]), .lit (.string [226, 153, 159]), .lit (.string [226, 153, 148]), .lit (.string [226, 153, 149]), .lit (.string [226, 153, 150]), .lit (.string [226, 153, 151]), .lit (.string [226, 153, 152]), .lit (.string [226, 153, 153])] []
def laid_pub_fianchetto_pub_chess_fenCharToPiece {H : Type} : DataW H := .agg [.lit (.int .i8 0), .lit (.int .i8 0), .lit (.int .i8 0), .lit (.int .i8 0), .lit (.int .i8 0), .lit (.int .i8 0), .lit (.int .i8 0), .lit (.int .i8 0), .lit (.int .i8 0), .lit (.int .i8 0), .lit (.int .i8 0), .lit (.int .i8 0), .lit (.int .i8 0), .lit (.int .i8 0), .lit (.int .i8 0), .lit (.int .i8 0), .lit (.int .i8 0), .lit (.int .i8 0), .lit (.int .i8 0), .lit (.int .i8 0), .lit (.int .i8 0), .lit (.int .i8 0), .lit (.int .i8 0), .lit (.int .i8 0), .lit (.int .i8 0), .lit (.int .i8 0), .lit (.int .i8 0), .lit (.int .i8 0), .lit (.int .i8 0), .lit (.int .i8 0), .lit (.int .i8 0), .lit (.int .i8 0), .lit (.int .i8 0), .lit (.int .i8 0), .lit (.int .i8 0), .lit (.int .i8 0), .lit (.int .i8 0), .lit (.int .i8 0), .lit (.int .i8 0), .lit (.int .i8 0), .lit (.int .i8 0), .lit (.int .i8 0), .lit (.int .i8 0), .lit (.int .i8 0), .lit (.int .i8 0), .lit (.int .i8 0), .lit (.int .i8 0), .lit (.int .i8 0), .lit (.int .i8 0), .lit (.int .i8 0), .lit (.int .i8 0), .lit (.int .i8 0), .lit (.int .i8 0), .lit (.int .i8 0), .lit (.int .i8 0), .lit (.int .i8 0), .lit (.int .i8 0), .lit (.int .i8 0), .lit (.int .i8 0), .lit (.int .i8 0), .lit (.int .i8 0), .lit (.int .i8 0), .lit (.int .i8 0), .lit (.int .i8 0), .lit (.int .i8 0), .lit (.int .i8 0), .lit (.int .i8 4), .lit (.int .i8 0), .lit (.int .i8 0), .lit (.int .i8 0), .lit (.int .i8 0), .lit (.int .i8 0), .lit (.int .i8 0), .lit (.int .i8 0), .lit (.int .i8 0), .lit (.int .i8 1), .lit (.int .i8 0), .lit (.int .i8 0), .lit (.int .i8 5), .lit (.int .i8 0), .lit (.int .i8 6), .lit (.int .i8 2), .lit (.int .i8 3), .lit (.int .i8 0), .lit (.int .i8 0), .lit (.int .i8 0), .lit (.int .i8 0), .lit (.int .i8 0), .lit (.int .i8 0), .lit (.int .i8 0), .lit (.int .i8 0), .lit (.int .i8 0), .lit (.int .i8 0), .lit (.int .i8 0), .lit (.int .i8 0), .lit (.int .i8 0), .lit (.int .i8 0), .lit (.int .i8 0), .lit (.int .i8 10), .lit (.int .i8 0), .lit (.int .i8 0), .lit (.int .i8 0), .lit (.int .i8 0), .lit (.int .i8 0), .lit (.int .i8 0), .lit (.int .i8 0), .lit (.int .i8 0), .lit (.int .i8 7), .lit (.int .i8 0), .lit (.int .i8 0), .lit (.int .i8 11), .lit (.int .i8 0), .lit (.int .i8 12), .lit (.int .i8 8), .lit (.int .i8 9), .lit (.int .i8 0), .lit (.int .i8 0), .lit (.int .i8 0), .lit (.int .i8 0), .lit (.int .i8 0), .lit (.int .i8 0), .lit (.int .i8 0), .lit (.int .i8 0), .lit (.int .i8 0), .lit (.int .i8 0), .lit (.int .i8 0), .lit (.int .i8 0), .lit (.int .i8 0)]
def laid_pub_fianchetto_pub_chess_bbFiles {H : Type} : DataW H := .agg [.lit (.int .u64 9259542123273814144), .lit (.int .u64 4629771061636907072), .lit (.int .u64 2314885530818453536), .lit (.int .u64 1157442765409226768), .lit (.int .u64 578721382704613384), .lit (.int .u64 289360691352306692), .lit (.int .u64 144680345676153346), .lit (.int .u64 72340172838076673)]
def laid_pub_fianchetto_pub_chess_bbRanks {H : Type} : DataW H := .agg [.lit (.int .u64 18374686479671623680), .lit (.int .u64 71776119061217280), .lit (.int .u64 280375465082880), .lit (.int .u64 1095216660480), .lit (.int .u64 4278190080), .lit (.int .u64 16711680), .lit (.int .u64 65280), .lit (.int .u64 255)]
def laid_pub_fianchetto_pub_chess_bbDiagonals {H : Type} : DataW H := .agg [.lit (.int .u64 9241421688590303745), .lit (.int .u64 4620710844295151872), .lit (.int .u64 2310355422147575808), .lit (.int .u64 1155177711073755136), .lit (.int .u64 577588855528488960), .lit (.int .u64 288794425616760832), .lit (.int .u64 144396663052566528), .lit (.int .u64 72057594037927936), .lit (.int .u64 36099303471055874), .lit (.int .u64 9241421688590303745), .lit (.int .u64 4620710844295151872), .lit (.int .u64 2310355422147575808), .lit (.int .u64 1155177711073755136), .lit (.int .u64 577588855528488960), .lit (.int .u64 288794425616760832), .lit (.int .u64 144396663052566528), .lit (.int .u64 141012904183812), .lit (.int .u64 36099303471055874), .lit (.int .u64 9241421688590303745), .lit (.int .u64 4620710844295151872), .lit (.int .u64 2310355422147575808), .lit (.int .u64 1155177711073755136), .lit (.int .u64 577588855528488960), .lit (.int .u64 288794425616760832), .lit (.int .u64 550831656968), .lit (.int .u64 141012904183812), .lit (.int .u64 36099303471055874), .lit (.int .u64 9241421688590303745), .lit (.int .u64 4620710844295151872), .lit (.int .u64 2310355422147575808), .lit (.int .u64 1155177711073755136), .lit (.int .u64 577588855528488960), .lit (.int .u64 2151686160), .lit (.int .u64 550831656968), .lit (.int .u64 141012904183812), .lit (.int .u64 36099303471055874), .lit (.int .u64 9241421688590303745), .lit (.int .u64 4620710844295151872), .lit (.int .u64 2310355422147575808), .lit (.int .u64 1155177711073755136), .lit (.int .u64 8405024), .lit (.int .u64 2151686160), .lit (.int .u64 550831656968), .lit (.int .u64 141012904183812), .lit (.int .u64 36099303471055874), .lit (.int .u64 9241421688590303745), .lit (.int .u64 4620710844295151872), .lit (.int .u64 2310355422147575808), .lit (.int .u64 32832), .lit (.int .u64 8405024), .lit (.int .u64 2151686160), .lit (.int .u64 550831656968), .lit (.int .u64 141012904183812), .lit (.int .u64 36099303471055874), .lit (.int .u64 9241421688590303745), .lit (.int .u64 4620710844295151872), .lit (.int .u64 128), .lit (.int .u64 32832), .lit (.int .u64 8405024), .lit (.int .u64 2151686160), .lit (.int .u64 550831656968), .lit (.int .u64 141012904183812), .lit (.int .u64 36099303471055874), .lit (.int .u64 9241421688590303745)]
def laid_pub_fianchetto_pub_chess_bbAntiDiagonals {H : Type} : DataW H := .agg [.lit (.int .u64 9223372036854775808), .lit (.int .u64 4647714815446351872), .lit (.int .u64 2323998145211531264), .lit (.int .u64 1161999622361579520), .lit (.int .u64 580999813328273408), .lit (.int .u64 290499906672525312), .lit (.int .u64 145249953336295424), .lit (.int .u64 72624976668147840), .lit (.int .u64 4647714815446351872), .lit (.int .u64 2323998145211531264), .lit (.int .u64 1161999622361579520), .lit (.int .u64 580999813328273408), .lit (.int .u64 290499906672525312), .lit (.int .u64 145249953336295424), .lit (.int .u64 72624976668147840), .lit (.int .u64 283691315109952), .lit (.int .u64 2323998145211531264), .lit (.int .u64 1161999622361579520), .lit (.int .u64 580999813328273408), .lit (.int .u64 290499906672525312), .lit (.int .u64 145249953336295424), .lit (.int .u64 72624976668147840), .lit (.int .u64 283691315109952), .lit (.int .u64 1108169199648), .lit (.int .u64 1161999622361579520), .lit (.int .u64 580999813328273408), .lit (.int .u64 290499906672525312), .lit (.int .u64 145249953336295424), .lit (.int .u64 72624976668147840), .lit (.int .u64 283691315109952), .lit (.int .u64 1108169199648), .lit (.int .u64 4328785936), .lit (.int .u64 580999813328273408), .lit (.int .u64 290499906672525312), .lit (.int .u64 145249953336295424), .lit (.int .u64 72624976668147840), .lit (.int .u64 283691315109952), .lit (.int .u64 1108169199648), .lit (.int .u64 4328785936), .lit (.int .u64 16909320), .lit (.int .u64 290499906672525312), .lit (.int .u64 145249953336295424), .lit (.int .u64 72624976668147840), .lit (.int .u64 283691315109952), .lit (.int .u64 1108169199648), .lit (.int .u64 4328785936), .lit (.int .u64 16909320), .lit (.int .u64 66052), .lit (.int .u64 145249953336295424), .lit (.int .u64 72624976668147840), .lit (.int .u64 283691315109952), .lit (.int .u64 1108169199648), .lit (.int .u64 4328785936), .lit (.int .u64 16909320), .lit (.int .u64 66052), .lit (.int .u64 258), .lit (.int .u64 72624976668147840), .lit (.int .u64 283691315109952), .lit (.int .u64 1108169199648), .lit (.int .u64 4328785936), .lit (.int .u64 16909320), .lit (.int .u64 66052), .lit (.int .u64 258), .lit (.int .u64 1)]
def laid_pub_fianchetto_pub_chess_bbKnightMoves {H : Type} : DataW H := .agg [.lit (.int .u64 9077567998918656), .lit (.int .u64 4679521487814656), .lit (.int .u64 38368557762871296), .lit (.int .u64 19184278881435648), .lit (.int .u64 9592139440717824), .lit (.int .u64 4796069720358912), .lit (.int .u64 2257297371824128), .lit (.int .u64 1128098930098176), .lit (.int .u64 2305878468463689728), .lit (.int .u64 1152939783987658752), .lit (.int .u64 9799982666336960512), .lit (.int .u64 4899991333168480256), .lit (.int .u64 2449995666584240128), .lit (.int .u64 1224997833292120064), .lit (.int .u64 576469569871282176), .lit (.int .u64 288234782788157440), .lit (.int .u64 4620693356194824192), .lit (.int .u64 11533718717099671552), .lit (.int .u64 5802888705324613632), .lit (.int .u64 2901444352662306816), .lit (.int .u64 1450722176331153408), .lit (.int .u64 725361088165576704), .lit (.int .u64 362539804446949376), .lit (.int .u64 145241105196122112), .lit (.int .u64 18049583422636032), .lit (.int .u64 45053588738670592), .lit (.int .u64 22667534005174272), .lit (.int .u64 11333767002587136), .lit (.int .u64 5666883501293568), .lit (.int .u64 2833441750646784), .lit (.int .u64 1416171111120896), .lit (.int .u64 567348067172352), .lit (.int .u64 70506185244672), .lit (.int .u64 175990581010432), .lit (.int .u64 88545054707712), .lit (.int .u64 44272527353856), .lit (.int .u64 22136263676928), .lit (.int .u64 11068131838464), .lit (.int .u64 5531918402816), .lit (.int .u64 2216203387392), .lit (.int .u64 275414786112), .lit (.int .u64 687463207072), .lit (.int .u64 345879119952), .lit (.int .u64 172939559976), .lit (.int .u64 86469779988), .lit (.int .u64 43234889994), .lit (.int .u64 21609056261), .lit (.int .u64 8657044482), .lit (.int .u64 1075839008), .lit (.int .u64 2685403152), .lit (.int .u64 1351090312), .lit (.int .u64 675545156), .lit (.int .u64 337772578), .lit (.int .u64 168886289), .lit (.int .u64 84410376), .lit (.int .u64 33816580), .lit (.int .u64 4202496), .lit (.int .u64 10489856), .lit (.int .u64 5277696), .lit (.int .u64 2638848), .lit (.int .u64 1319424), .lit (.int .u64 659712), .lit (.int .u64 329728), .lit (.int .u64 132096)]
def laid_pub_fianchetto_pub_chess_bbKingMoves {H : Type} : DataW H := .agg [.lit (.int .u64 4665729213955833856), .lit (.int .u64 11592265440851656704), .lit (.int .u64 5796132720425828352), .lit (.int .u64 2898066360212914176), .lit (.int .u64 1449033180106457088), .lit (.int .u64 724516590053228544), .lit (.int .u64 362258295026614272), .lit (.int .u64 144959613005987840), .lit (.int .u64 13853283560024178688), .lit (.int .u64 16186183351374184448), .lit (.int .u64 8093091675687092224), .lit (.int .u64 4046545837843546112), .lit (.int .u64 2023272918921773056), .lit (.int .u64 1011636459460886528), .lit (.int .u64 505818229730443264), .lit (.int .u64 216739030602088448), .lit (.int .u64 54114388906344448), .lit (.int .u64 63227278716305408), .lit (.int .u64 31613639358152704), .lit (.int .u64 15806819679076352), .lit (.int .u64 7903409839538176), .lit (.int .u64 3951704919769088), .lit (.int .u64 1975852459884544), .lit (.int .u64 846636838289408), .lit (.int .u64 211384331665408), .lit (.int .u64 246981557485568), .lit (.int .u64 123490778742784), .lit (.int .u64 61745389371392), .lit (.int .u64 30872694685696), .lit (.int .u64 15436347342848), .lit (.int .u64 7718173671424), .lit (.int .u64 3307175149568), .lit (.int .u64 825720045568), .lit (.int .u64 964771708928), .lit (.int .u64 482385854464), .lit (.int .u64 241192927232), .lit (.int .u64 120596463616), .lit (.int .u64 60298231808), .lit (.int .u64 30149115904), .lit (.int .u64 12918652928), .lit (.int .u64 3225468928), .lit (.int .u64 3768639488), .lit (.int .u64 1884319744), .lit (.int .u64 942159872), .lit (.int .u64 471079936), .lit (.int .u64 235539968), .lit (.int .u64 117769984), .lit (.int .u64 50463488), .lit (.int .u64 12599488), .lit (.int .u64 14721248), .lit (.int .u64 7360624), .lit (.int .u64 3680312), .lit (.int .u64 1840156), .lit (.int .u64 920078), .lit (.int .u64 460039), .lit (.int .u64 197123), .lit (.int .u64 49216), .lit (.int .u64 57504), .lit (.int .u64 28752), .lit (.int .u64 14376), .lit (.int .u64 7188), .lit (.int .u64 3594), .lit (.int .u64 1797), .lit (.int .u64 770)]

/-- 'laws.FnBdWrong': WHATEVER THE INPUT: true; the input reads as it did. -/
def fnBdWrongSpec : ChangeSpec := { name := "fnBdWrong", fn := fun _ => fun
  | [d] => { results := [.lit (.bool true)], args := [d] }
  | _ => none }
def fnBdWrongRow : OpenClaim := { program := "ytnlicbhelnocpaadoor", sum := "be7fca9b855122eea55e51d28da955814ba6a1845d424994ef1b4040a1d74e25", func := "pub-fianchetto/laws.FnBdWrong", spec := "fnBdWrong", unfollowed := true, recurses := true, named := ["encoding/binary.BigEndian", "pub-fianchetto/pub/chess.allPieces"], apart := false, laid := [("pub-fianchetto/pub/chess.allPieces", laid_pub_fianchetto_pub_chess_allPieces)] }
def FnBdWrongSaid : Prop := fnBdWrongRow.holds Tryd.pinned (OpenSpec.ofChange fnBdWrongSpec)

/-- ITS FALSE NEIGHBOUR: 'it returns false'. Refute it at one input. -/
def fnBdWrongWrong : ChangeSpec := { name := "fnBdWrong", fn := fun _ => fun
  | [d] => { results := [.lit (.bool false)], args := [d] }
  | _ => none }
def FnBdWrongWrongFalsely : Prop := fnBdWrongRow.holds Tryd.pinned (OpenSpec.ofChange fnBdWrongWrong)

/-- 'laws.FnMvSuffices': WHATEVER THE INPUT: true; the input reads as it did. -/
def fnMvSufficesSpec : ChangeSpec := { name := "fnMvSuffices", fn := fun _ => fun
  | [d] => { results := [.lit (.bool true)], args := [d] }
  | _ => none }
def fnMvSufficesRow : OpenClaim := { program := "ytnlicbhelnocpaadoor", sum := "be7fca9b855122eea55e51d28da955814ba6a1845d424994ef1b4040a1d74e25", func := "pub-fianchetto/laws.FnMvSuffices", spec := "fnMvSuffices", unfollowed := true, recurses := true, named := ["pub-fianchetto/pub/chess.allPieces"], apart := false, laid := [("pub-fianchetto/pub/chess.allPieces", laid_pub_fianchetto_pub_chess_allPieces)] }
def FnMvSufficesSaid : Prop := fnMvSufficesRow.holds Tryd.pinned (OpenSpec.ofChange fnMvSufficesSpec)

/-- ITS FALSE NEIGHBOUR: 'it returns false'. Refute it at one input. -/
def fnMvSufficesWrong : ChangeSpec := { name := "fnMvSuffices", fn := fun _ => fun
  | [d] => { results := [.lit (.bool false)], args := [d] }
  | _ => none }
def FnMvSufficesWrongFalsely : Prop := fnMvSufficesRow.holds Tryd.pinned (OpenSpec.ofChange fnMvSufficesWrong)

/-- 'laws.FnBdDraw': WHATEVER THE INPUT: true; the input reads as it did. -/
def fnBdDrawSpec : ChangeSpec := { name := "fnBdDraw", fn := fun _ => fun
  | [d1, d2, d3] => { results := [.lit (.bool true)], args := [d1, d2, d3] }
  | _ => none }
def fnBdDrawRow : OpenClaim := { program := "ytnlicbhelnocpaadoor", sum := "be7fca9b855122eea55e51d28da955814ba6a1845d424994ef1b4040a1d74e25", func := "pub-fianchetto/laws.FnBdDraw", spec := "fnBdDraw", unfollowed := true, recurses := true, named := ["pub-fianchetto/pub/chess.pieceDarkUnicodes", "pub-fianchetto/pub/chess.pieceUnicodes", "pub-fianchetto/pub/chess.allPieces"], apart := false, laid := [("pub-fianchetto/pub/chess.allPieces", laid_pub_fianchetto_pub_chess_allPieces), ("pub-fianchetto/pub/chess.pieceUnicodes", laid_pub_fianchetto_pub_chess_pieceUnicodes), ("pub-fianchetto/pub/chess.pieceDarkUnicodes", laid_pub_fianchetto_pub_chess_pieceDarkUnicodes)] }
def FnBdDrawSaid : Prop := fnBdDrawRow.holds Tryd.pinned (OpenSpec.ofChange fnBdDrawSpec)

/-- ITS FALSE NEIGHBOUR: 'it returns false'. Refute it at one input. -/
def fnBdDrawWrong : ChangeSpec := { name := "fnBdDraw", fn := fun _ => fun
  | [d1, d2, d3] => { results := [.lit (.bool false)], args := [d1, d2, d3] }
  | _ => none }
def FnBdDrawWrongFalsely : Prop := fnBdDrawRow.holds Tryd.pinned (OpenSpec.ofChange fnBdDrawWrong)

/-- 'laws.FnBdRead': WHATEVER THE INPUT: true; the input reads as it did. -/
def fnBdReadSpec : ChangeSpec := { name := "fnBdRead", fn := fun _ => fun
  | [d] => { results := [.lit (.bool true)], args := [d] }
  | _ => none }
def fnBdReadRow : OpenClaim := { program := "ytnlicbhelnocpaadoor", sum := "be7fca9b855122eea55e51d28da955814ba6a1845d424994ef1b4040a1d74e25", func := "pub-fianchetto/laws.FnBdRead", spec := "fnBdRead", unfollowed := true, recurses := true, named := ["pub-fianchetto/pub/chess.fenCharToPiece", "pub-fianchetto/pub/chess.allPieces"], apart := false, laid := [("pub-fianchetto/pub/chess.fenCharToPiece", laid_pub_fianchetto_pub_chess_fenCharToPiece), ("pub-fianchetto/pub/chess.allPieces", laid_pub_fianchetto_pub_chess_allPieces)] }
def FnBdReadSaid : Prop := fnBdReadRow.holds Tryd.pinned (OpenSpec.ofChange fnBdReadSpec)

/-- ITS FALSE NEIGHBOUR: 'it returns false'. Refute it at one input. -/
def fnBdReadWrong : ChangeSpec := { name := "fnBdRead", fn := fun _ => fun
  | [d] => { results := [.lit (.bool false)], args := [d] }
  | _ => none }
def FnBdReadWrongFalsely : Prop := fnBdReadRow.holds Tryd.pinned (OpenSpec.ofChange fnBdReadWrong)

/-- 'laws.FnMvCheck': WHATEVER THE INPUT: true; the input reads as it did. -/
def fnMvCheckSpec : ChangeSpec := { name := "fnMvCheck", fn := fun _ => fun
  | [d] => { results := [.lit (.bool true)], args := [d] }
  | _ => none }
def fnMvCheckRow : OpenClaim := { program := "ytnlicbhelnocpaadoor", sum := "be7fca9b855122eea55e51d28da955814ba6a1845d424994ef1b4040a1d74e25", func := "pub-fianchetto/laws.FnMvCheck", spec := "fnMvCheck", unfollowed := true, recurses := true, named := ["pub-fianchetto/pub/chess.allPieces", "pub-fianchetto/pub/chess.bbKnightMoves", "pub-fianchetto/pub/chess.bbKingMoves", "pub-fianchetto/pub/chess.bbDiagonals", "pub-fianchetto/pub/chess.bbAntiDiagonals", "pub-fianchetto/pub/chess.bbRanks", "pub-fianchetto/pub/chess.bbFiles"], apart := false, laid := [("pub-fianchetto/pub/chess.bbFiles", laid_pub_fianchetto_pub_chess_bbFiles), ("pub-fianchetto/pub/chess.bbRanks", laid_pub_fianchetto_pub_chess_bbRanks), ("pub-fianchetto/pub/chess.bbDiagonals", laid_pub_fianchetto_pub_chess_bbDiagonals), ("pub-fianchetto/pub/chess.bbAntiDiagonals", laid_pub_fianchetto_pub_chess_bbAntiDiagonals), ("pub-fianchetto/pub/chess.bbKnightMoves", laid_pub_fianchetto_pub_chess_bbKnightMoves), ("pub-fianchetto/pub/chess.bbKingMoves", laid_pub_fianchetto_pub_chess_bbKingMoves), ("pub-fianchetto/pub/chess.allPieces", laid_pub_fianchetto_pub_chess_allPieces)] }
def FnMvCheckSaid : Prop := fnMvCheckRow.holds Tryd.pinned (OpenSpec.ofChange fnMvCheckSpec)

/-- ITS FALSE NEIGHBOUR: 'it returns false'. Refute it at one input. -/
def fnMvCheckWrong : ChangeSpec := { name := "fnMvCheck", fn := fun _ => fun
  | [d] => { results := [.lit (.bool false)], args := [d] }
  | _ => none }
def FnMvCheckWrongFalsely : Prop := fnMvCheckRow.holds Tryd.pinned (OpenSpec.ofChange fnMvCheckWrong)

/-- 'laws.FnBiPossible': WHATEVER THE INPUT: true; the input reads as it did. -/
def fnBiPossibleSpec : ChangeSpec := { name := "fnBiPossible", fn := fun _ => fun
  | [d1, d2, d3] => { results := [.lit (.bool true)], args := [d1, d2, d3] }
  | _ => none }
def fnBiPossibleRow : OpenClaim := { program := "ytnlicbhelnocpaadoor", sum := "be7fca9b855122eea55e51d28da955814ba6a1845d424994ef1b4040a1d74e25", func := "pub-fianchetto/laws.FnBiPossible", spec := "fnBiPossible", unfollowed := true, recurses := true, named := ["pub-fianchetto/pub/chess.allPieces", "pub-fianchetto/pub/chess.bbKnightMoves", "pub-fianchetto/pub/chess.bbKingMoves", "pub-fianchetto/pub/chess.bbDiagonals", "pub-fianchetto/pub/chess.bbAntiDiagonals", "pub-fianchetto/pub/chess.bbRanks", "pub-fianchetto/pub/chess.bbFiles"], apart := false, laid := [("pub-fianchetto/pub/chess.bbFiles", laid_pub_fianchetto_pub_chess_bbFiles), ("pub-fianchetto/pub/chess.bbRanks", laid_pub_fianchetto_pub_chess_bbRanks), ("pub-fianchetto/pub/chess.bbDiagonals", laid_pub_fianchetto_pub_chess_bbDiagonals), ("pub-fianchetto/pub/chess.bbAntiDiagonals", laid_pub_fianchetto_pub_chess_bbAntiDiagonals), ("pub-fianchetto/pub/chess.bbKnightMoves", laid_pub_fianchetto_pub_chess_bbKnightMoves), ("pub-fianchetto/pub/chess.bbKingMoves", laid_pub_fianchetto_pub_chess_bbKingMoves), ("pub-fianchetto/pub/chess.allPieces", laid_pub_fianchetto_pub_chess_allPieces)] }
def FnBiPossibleSaid : Prop := fnBiPossibleRow.holds Tryd.pinned (OpenSpec.ofChange fnBiPossibleSpec)

/-- ITS FALSE NEIGHBOUR: 'it returns false'. Refute it at one input. -/
def fnBiPossibleWrong : ChangeSpec := { name := "fnBiPossible", fn := fun _ => fun
  | [d1, d2, d3] => { results := [.lit (.bool false)], args := [d1, d2, d3] }
  | _ => none }
def FnBiPossibleWrongFalsely : Prop := fnBiPossibleRow.holds Tryd.pinned (OpenSpec.ofChange fnBiPossibleWrong)

/- THE SECOND FORM. 'bulk': how many values and letters a reading holds, each counted each time it is reached (what is shared counts as often as it is met; a slice's spare places count too). A statement '..UptoSaid' is the law's where the arguments, and the package variables that the reading takes, are together of bulk at most 1048576: NARROWER than '..Said'. Prove '..Said' where nothing that the law and all that it calls make is longer than what came in: it says more and counts as full. Else prove '..UptoSaid'. A law counts once. -/
mutual
def uptoBulk {H : Type} : DataW H → Nat
  | .lit (.string bytes) => bytes.length + 1
  | .lit _ => 1
  | .nil => 1
  | .ptr d => uptoBulk d + 1
  | .slice elems spare => uptoBulkAll elems + uptoBulkAll spare + 1
  | .agg parts => uptoBulkAll parts + 1
  | .iface _ d => uptoBulk d + 1
  | .map entries => uptoBulkEntries entries + 1
  | .held _ => 1
def uptoBulkAll {H : Type} : List (DataW H) → Nat
  | [] => 0
  | d :: r => uptoBulk d + uptoBulkAll r
def uptoBulkEntries {H : Type} : List (Lit × DataW H) → Nat
  | [] => 0
  | x :: r => uptoBulkEntry x + uptoBulkEntries r
def uptoBulkEntry {H : Type} : Lit × DataW H → Nat
  | (.string bytes, d) => bytes.length + uptoBulk d + 1
  | (_, d) => uptoBulk d + 1
 end
def uptoSmall : (H : Type) → List (DataW H) → Bool := fun _ ds => decide (uptoBulkAll ds ≤ 1048576)
def OpenSpec.upto (s : _root_.Go.ChangeSpec) : _root_.Go.OpenSpec := { _root_.Go.OpenSpec.ofChange s with cond := some uptoSmall }

/-- 'laws.FnBdWrong', WHERE WHAT IT READS IS OF BULK AT MOST 1048576: true; the input reads as it did. -/
def fnBdWrongUptoRow : OpenClaim := { program := "ytnlicbhelnocpaadoor", sum := "be7fca9b855122eea55e51d28da955814ba6a1845d424994ef1b4040a1d74e25", func := "pub-fianchetto/laws.FnBdWrong", spec := "fnBdWrong", unfollowed := true, recurses := true, named := ["encoding/binary.BigEndian", "pub-fianchetto/pub/chess.allPieces"], apart := false, laid := [("pub-fianchetto/pub/chess.allPieces", laid_pub_fianchetto_pub_chess_allPieces)], narrowed := true }
def FnBdWrongUptoSaid : Prop := fnBdWrongUptoRow.holds Tryd.pinned (OpenSpec.upto fnBdWrongSpec)

/-- 'laws.FnMvSuffices', WHERE WHAT IT READS IS OF BULK AT MOST 1048576: true; the input reads as it did. -/
def fnMvSufficesUptoRow : OpenClaim := { program := "ytnlicbhelnocpaadoor", sum := "be7fca9b855122eea55e51d28da955814ba6a1845d424994ef1b4040a1d74e25", func := "pub-fianchetto/laws.FnMvSuffices", spec := "fnMvSuffices", unfollowed := true, recurses := true, named := ["pub-fianchetto/pub/chess.allPieces"], apart := false, laid := [("pub-fianchetto/pub/chess.allPieces", laid_pub_fianchetto_pub_chess_allPieces)], narrowed := true }
def FnMvSufficesUptoSaid : Prop := fnMvSufficesUptoRow.holds Tryd.pinned (OpenSpec.upto fnMvSufficesSpec)

/-- 'laws.FnBdDraw', WHERE WHAT IT READS IS OF BULK AT MOST 1048576: true; the input reads as it did. -/
def fnBdDrawUptoRow : OpenClaim := { program := "ytnlicbhelnocpaadoor", sum := "be7fca9b855122eea55e51d28da955814ba6a1845d424994ef1b4040a1d74e25", func := "pub-fianchetto/laws.FnBdDraw", spec := "fnBdDraw", unfollowed := true, recurses := true, named := ["pub-fianchetto/pub/chess.pieceDarkUnicodes", "pub-fianchetto/pub/chess.pieceUnicodes", "pub-fianchetto/pub/chess.allPieces"], apart := false, laid := [("pub-fianchetto/pub/chess.allPieces", laid_pub_fianchetto_pub_chess_allPieces), ("pub-fianchetto/pub/chess.pieceUnicodes", laid_pub_fianchetto_pub_chess_pieceUnicodes), ("pub-fianchetto/pub/chess.pieceDarkUnicodes", laid_pub_fianchetto_pub_chess_pieceDarkUnicodes)], narrowed := true }
def FnBdDrawUptoSaid : Prop := fnBdDrawUptoRow.holds Tryd.pinned (OpenSpec.upto fnBdDrawSpec)

/-- 'laws.FnBdRead', WHERE WHAT IT READS IS OF BULK AT MOST 1048576: true; the input reads as it did. -/
def fnBdReadUptoRow : OpenClaim := { program := "ytnlicbhelnocpaadoor", sum := "be7fca9b855122eea55e51d28da955814ba6a1845d424994ef1b4040a1d74e25", func := "pub-fianchetto/laws.FnBdRead", spec := "fnBdRead", unfollowed := true, recurses := true, named := ["pub-fianchetto/pub/chess.fenCharToPiece", "pub-fianchetto/pub/chess.allPieces"], apart := false, laid := [("pub-fianchetto/pub/chess.fenCharToPiece", laid_pub_fianchetto_pub_chess_fenCharToPiece), ("pub-fianchetto/pub/chess.allPieces", laid_pub_fianchetto_pub_chess_allPieces)], narrowed := true }
def FnBdReadUptoSaid : Prop := fnBdReadUptoRow.holds Tryd.pinned (OpenSpec.upto fnBdReadSpec)

/-- 'laws.FnMvCheck', WHERE WHAT IT READS IS OF BULK AT MOST 1048576: true; the input reads as it did. -/
def fnMvCheckUptoRow : OpenClaim := { program := "ytnlicbhelnocpaadoor", sum := "be7fca9b855122eea55e51d28da955814ba6a1845d424994ef1b4040a1d74e25", func := "pub-fianchetto/laws.FnMvCheck", spec := "fnMvCheck", unfollowed := true, recurses := true, named := ["pub-fianchetto/pub/chess.allPieces", "pub-fianchetto/pub/chess.bbKnightMoves", "pub-fianchetto/pub/chess.bbKingMoves", "pub-fianchetto/pub/chess.bbDiagonals", "pub-fianchetto/pub/chess.bbAntiDiagonals", "pub-fianchetto/pub/chess.bbRanks", "pub-fianchetto/pub/chess.bbFiles"], apart := false, laid := [("pub-fianchetto/pub/chess.bbFiles", laid_pub_fianchetto_pub_chess_bbFiles), ("pub-fianchetto/pub/chess.bbRanks", laid_pub_fianchetto_pub_chess_bbRanks), ("pub-fianchetto/pub/chess.bbDiagonals", laid_pub_fianchetto_pub_chess_bbDiagonals), ("pub-fianchetto/pub/chess.bbAntiDiagonals", laid_pub_fianchetto_pub_chess_bbAntiDiagonals), ("pub-fianchetto/pub/chess.bbKnightMoves", laid_pub_fianchetto_pub_chess_bbKnightMoves), ("pub-fianchetto/pub/chess.bbKingMoves", laid_pub_fianchetto_pub_chess_bbKingMoves), ("pub-fianchetto/pub/chess.allPieces", laid_pub_fianchetto_pub_chess_allPieces)], narrowed := true }
def FnMvCheckUptoSaid : Prop := fnMvCheckUptoRow.holds Tryd.pinned (OpenSpec.upto fnMvCheckSpec)

/-- 'laws.FnBiPossible', WHERE WHAT IT READS IS OF BULK AT MOST 1048576: true; the input reads as it did. -/
def fnBiPossibleUptoRow : OpenClaim := { program := "ytnlicbhelnocpaadoor", sum := "be7fca9b855122eea55e51d28da955814ba6a1845d424994ef1b4040a1d74e25", func := "pub-fianchetto/laws.FnBiPossible", spec := "fnBiPossible", unfollowed := true, recurses := true, named := ["pub-fianchetto/pub/chess.allPieces", "pub-fianchetto/pub/chess.bbKnightMoves", "pub-fianchetto/pub/chess.bbKingMoves", "pub-fianchetto/pub/chess.bbDiagonals", "pub-fianchetto/pub/chess.bbAntiDiagonals", "pub-fianchetto/pub/chess.bbRanks", "pub-fianchetto/pub/chess.bbFiles"], apart := false, laid := [("pub-fianchetto/pub/chess.bbFiles", laid_pub_fianchetto_pub_chess_bbFiles), ("pub-fianchetto/pub/chess.bbRanks", laid_pub_fianchetto_pub_chess_bbRanks), ("pub-fianchetto/pub/chess.bbDiagonals", laid_pub_fianchetto_pub_chess_bbDiagonals), ("pub-fianchetto/pub/chess.bbAntiDiagonals", laid_pub_fianchetto_pub_chess_bbAntiDiagonals), ("pub-fianchetto/pub/chess.bbKnightMoves", laid_pub_fianchetto_pub_chess_bbKnightMoves), ("pub-fianchetto/pub/chess.bbKingMoves", laid_pub_fianchetto_pub_chess_bbKingMoves), ("pub-fianchetto/pub/chess.allPieces", laid_pub_fianchetto_pub_chess_allPieces)], narrowed := true }
def FnBiPossibleUptoSaid : Prop := fnBiPossibleUptoRow.holds Tryd.pinned (OpenSpec.upto fnBiPossibleSpec)

end Rows
end Go.Proofs.YtnlicbhelnocpaaDoor

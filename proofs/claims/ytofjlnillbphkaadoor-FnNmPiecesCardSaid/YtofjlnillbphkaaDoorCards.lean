/-
  DERIVED. GIVEN WITH THE SEED: THE CARDS: each row of YtofjlnillbphkaaDoorRows.lean that lists a variable, with what it lists TIED to the program's text (the seventh form; the later family's looks); each row that meets fmt, with fmt's text TOLD by the authors' own Lean function (tested against real Go, not proved from fmt's source: count such statements apart). THE CARD IS WHAT COUNTS. Prove the row's statement (the work); the ties are given (YtofjlnillbphkaaDoorTie.lean); close each card by the builder's one call (the guide's Derived/Test/ToyasCard.lean, 'card_holds'). Laid BY PROGRAM, IN A SANDBOX (cutbox-door.mjs). By AI agents, Wed Nov 11 2026. No macro, syntax, notation, axiom, sorry.
-/
import Derived.Test.YtofjlnillbphkaaDoorRows
import GoSem.ClaimSeven
namespace Go.Proofs.YtofjlnillbphkaaDoor
namespace Rows

/-- THE TIED CARD OF 'laws.FnBiAttacks'. -/
def fnBiAttacksCard : Claim7 := { stood := { row := fnBiAttacksRow, standIns := [], harness := (true, "6205842dd6a82506210576e1fd303833ea1a4e1dfac0a05a5a4ecf861df6f56f"), looks := false }, kinds := [], alts := [], laidByText := true, laidKinds := [.data, .data, .data, .data], laidTests := true, laidLooks := .later }
def FnBiAttacksCardSaid : Prop := Claim7.holds Tryd.pinned (.plain (OpenSpec.ofChange fnBiAttacksSpec)) fnBiAttacksCard

/-- THE TIED CARD OF 'laws.FnNmPieces'. -/
def fnNmPiecesCard : Claim7 := { stood := { row := fnNmPiecesRow, standIns := [], harness := (true, "6205842dd6a82506210576e1fd303833ea1a4e1dfac0a05a5a4ecf861df6f56f"), looks := false }, kinds := [], alts := [], laidByText := true, laidKinds := [.data, .data, .data], laidTests := true, laidLooks := .later }
def FnNmPiecesCardSaid : Prop := Claim7.holds Tryd.pinned (.plain (OpenSpec.ofChange fnNmPiecesSpec)) fnNmPiecesCard

/-- THE SECOND FORM's CARD OF 'laws.FnBiAttacks'. -/
def fnBiAttacksUptoCard : Claim7 := { stood := { row := fnBiAttacksUptoRow, standIns := [], harness := (true, "6205842dd6a82506210576e1fd303833ea1a4e1dfac0a05a5a4ecf861df6f56f"), looks := false }, kinds := [], alts := [], laidByText := true, laidKinds := [.data, .data, .data, .data], laidTests := true, laidLooks := .later }
def FnBiAttacksUptoCardSaid : Prop := Claim7.holds Tryd.pinned (.plain (OpenSpec.upto fnBiAttacksSpec)) fnBiAttacksUptoCard

/-- THE SECOND FORM's CARD OF 'laws.FnNmPieces'. -/
def fnNmPiecesUptoCard : Claim7 := { stood := { row := fnNmPiecesUptoRow, standIns := [], harness := (true, "6205842dd6a82506210576e1fd303833ea1a4e1dfac0a05a5a4ecf861df6f56f"), looks := false }, kinds := [], alts := [], laidByText := true, laidKinds := [.data, .data, .data], laidTests := true, laidLooks := .later }
def FnNmPiecesUptoCardSaid : Prop := Claim7.holds Tryd.pinned (.plain (OpenSpec.upto fnNmPiecesSpec)) fnNmPiecesUptoCard
end Rows
end Go.Proofs.YtofjlnillbphkaaDoor

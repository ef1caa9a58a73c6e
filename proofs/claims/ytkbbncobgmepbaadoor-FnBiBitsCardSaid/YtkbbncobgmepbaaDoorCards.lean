/-
  DERIVED. GIVEN WITH THE SEED: THE CARDS: each row of YtkbbncobgmepbaaDoorRows.lean that lists a variable, with what it lists TIED to the program's text (the seventh form; the later family's looks); each row that meets fmt, with fmt's text TOLD by the authors' own Lean function (tested against real Go, not proved from fmt's source: count such statements apart). THE CARD IS WHAT COUNTS. Prove the row's statement (the work); the ties are given (YtkbbncobgmepbaaDoorTie.lean); close each card by the builder's one call (the guide's Derived/Test/ToyasCard.lean, 'card_holds'). Laid BY PROGRAM, IN A SANDBOX (cutbox-door.mjs). By AI agents, Wed Nov 11 2026. No macro, syntax, notation, axiom, sorry.
-/
import Derived.Test.YtkbbncobgmepbaaDoorRows
import GoSem.ClaimSeven
namespace Go.Proofs.YtkbbncobgmepbaaDoor
namespace Rows

/-- THE TIED CARD OF 'laws.FnSanSyntax'. -/
def fnSanSyntaxCard : Claim7 := { stood := { row := fnSanSyntaxRow, standIns := [], harness := (true, "869ed70e0871a02185ec953360436c50acca520346e91e8a2418005467b3dc89"), looks := false }, kinds := [], alts := [], laidByText := true, laidKinds := [.data], laidTests := true, laidLooks := .later }
def FnSanSyntaxCardSaid : Prop := Claim7.holds Tryd.pinned (.plain (OpenSpec.ofChange fnSanSyntaxSpec)) fnSanSyntaxCard

/-- THE TIED CARD OF 'laws.FnNmLetters'. -/
def fnNmLettersCard : Claim7 := { stood := { row := fnNmLettersRow, standIns := [], harness := (true, "869ed70e0871a02185ec953360436c50acca520346e91e8a2418005467b3dc89"), looks := false }, kinds := [], alts := [], laidByText := true, laidKinds := [.data, .pinned, .pinned], laidTests := true, laidLooks := .later }
def FnNmLettersCardSaid : Prop := Claim7.holds Tryd.pinned (.plain (OpenSpec.ofChange fnNmLettersSpec)) fnNmLettersCard

/-- THE TIED CARD OF 'laws.FnBiBits'. -/
def fnBiBitsCard : Claim7 := { stood := { row := fnBiBitsRow, standIns := [], harness := (true, "869ed70e0871a02185ec953360436c50acca520346e91e8a2418005467b3dc89"), looks := false }, kinds := [], alts := [], laidByText := true, laidKinds := [.data, .data, .data], laidTests := true, laidLooks := .later }
def FnBiBitsCardSaid : Prop := Claim7.holds Tryd.pinned (.plain (OpenSpec.ofChange fnBiBitsSpec)) fnBiBitsCard

/-- THE SECOND FORM's CARD OF 'laws.FnSanSyntax'. -/
def fnSanSyntaxUptoCard : Claim7 := { stood := { row := fnSanSyntaxUptoRow, standIns := [], harness := (true, "869ed70e0871a02185ec953360436c50acca520346e91e8a2418005467b3dc89"), looks := false }, kinds := [], alts := [], laidByText := true, laidKinds := [.data], laidTests := true, laidLooks := .later }
def FnSanSyntaxUptoCardSaid : Prop := Claim7.holds Tryd.pinned (.plain (OpenSpec.upto fnSanSyntaxSpec)) fnSanSyntaxUptoCard

/-- THE SECOND FORM's CARD OF 'laws.FnNmLetters'. -/
def fnNmLettersUptoCard : Claim7 := { stood := { row := fnNmLettersUptoRow, standIns := [], harness := (true, "869ed70e0871a02185ec953360436c50acca520346e91e8a2418005467b3dc89"), looks := false }, kinds := [], alts := [], laidByText := true, laidKinds := [.data, .pinned, .pinned], laidTests := true, laidLooks := .later }
def FnNmLettersUptoCardSaid : Prop := Claim7.holds Tryd.pinned (.plain (OpenSpec.upto fnNmLettersSpec)) fnNmLettersUptoCard

/-- THE SECOND FORM's CARD OF 'laws.FnBiBits'. -/
def fnBiBitsUptoCard : Claim7 := { stood := { row := fnBiBitsUptoRow, standIns := [], harness := (true, "869ed70e0871a02185ec953360436c50acca520346e91e8a2418005467b3dc89"), looks := false }, kinds := [], alts := [], laidByText := true, laidKinds := [.data, .data, .data], laidTests := true, laidLooks := .later }
def FnBiBitsUptoCardSaid : Prop := Claim7.holds Tryd.pinned (.plain (OpenSpec.upto fnBiBitsSpec)) fnBiBitsUptoCard
end Rows
end Go.Proofs.YtkbbncobgmepbaaDoor

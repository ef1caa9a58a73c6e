/-
  DERIVED. GIVEN WITH THE SEED: THE CARDS: each row of YtlcdhahnngfjhaaDoorRows.lean that lists a variable, with what it lists TIED to the program's text (the seventh form; the later family's looks); each row that meets fmt, with fmt's text TOLD by the authors' own Lean function (tested against real Go, not proved from fmt's source: count such statements apart). THE CARD IS WHAT COUNTS. Prove the row's statement (the work); the ties are given (YtlcdhahnngfjhaaDoorTie.lean); close each card by the builder's one call (the guide's Derived/Test/ToyasCard.lean, 'card_holds'). Laid BY PROGRAM, IN A SANDBOX (cutbox-door.mjs). By AI agents, Wed Nov 11 2026. No macro, syntax, notation, axiom, sorry.
-/
import Derived.Test.YtlcdhahnngfjhaaDoorRows
import GoSem.ClaimSeven
namespace Go.Proofs.YtlcdhahnngfjhaaDoor
namespace Rows

/-- THE TIED CARD OF 'laws.FnLexBad'. -/
def fnLexBadCard : Claim7 := { stood := { row := fnLexBadRow, standIns := [], harness := (true, "c80e2dd615c2f688e286f818231f2e1fe371d125936687531001c71d6c309e02"), looks := false }, kinds := [], alts := [], laidByText := true, laidKinds := [.data, .listed, .data, .data, .pinned, .pinned], laidTests := true, laidLooks := .later }
def FnLexBadCardSaid : Prop := Claim7.holds Tryd.pinned (.plain (OpenSpec.ofChange fnLexBadSpec)) fnLexBadCard

/-- THE TIED CARD OF 'laws.FnLexJoins'. -/
def fnLexJoinsCard : Claim7 := { stood := { row := fnLexJoinsRow, standIns := [], harness := (true, "c80e2dd615c2f688e286f818231f2e1fe371d125936687531001c71d6c309e02"), looks := false }, kinds := [], alts := [], laidByText := true, laidKinds := [.data, .listed, .data, .data, .pinned, .pinned], laidTests := true, laidLooks := .later }
def FnLexJoinsCardSaid : Prop := Claim7.holds Tryd.pinned (.plain (OpenSpec.ofChange fnLexJoinsSpec)) fnLexJoinsCard

/-- THE SECOND FORM's CARD OF 'laws.FnLexBad'. -/
def fnLexBadUptoCard : Claim7 := { stood := { row := fnLexBadUptoRow, standIns := [], harness := (true, "c80e2dd615c2f688e286f818231f2e1fe371d125936687531001c71d6c309e02"), looks := false }, kinds := [], alts := [], laidByText := true, laidKinds := [.data, .listed, .data, .data, .pinned, .pinned], laidTests := true, laidLooks := .later }
def FnLexBadUptoCardSaid : Prop := Claim7.holds Tryd.pinned (.plain (OpenSpec.upto fnLexBadSpec)) fnLexBadUptoCard

/-- THE SECOND FORM's CARD OF 'laws.FnLexJoins'. -/
def fnLexJoinsUptoCard : Claim7 := { stood := { row := fnLexJoinsUptoRow, standIns := [], harness := (true, "c80e2dd615c2f688e286f818231f2e1fe371d125936687531001c71d6c309e02"), looks := false }, kinds := [], alts := [], laidByText := true, laidKinds := [.data, .listed, .data, .data, .pinned, .pinned], laidTests := true, laidLooks := .later }
def FnLexJoinsUptoCardSaid : Prop := Claim7.holds Tryd.pinned (.plain (OpenSpec.upto fnLexJoinsSpec)) fnLexJoinsUptoCard
end Rows
end Go.Proofs.YtlcdhahnngfjhaaDoor

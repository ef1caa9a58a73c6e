/-
  DERIVED. GIVEN WITH THE SEED: THE CARDS: each row of YthdbgjhonnogpaaDoorRows.lean that lists a variable, with what it lists TIED to the program's text (the seventh form; the later family's looks); each row that meets fmt, with fmt's text TOLD by the authors' own Lean function (tested against real Go, not proved from fmt's source: count such statements apart). THE CARD IS WHAT COUNTS. Prove the row's statement (the work); the ties are given (YthdbgjhonnogpaaDoorTie.lean); close each card by the builder's one call (the guide's Derived/Test/ToyasCard.lean, 'card_holds'). Laid BY PROGRAM, IN A SANDBOX (cutbox-door.mjs). By AI agents, Wed Nov 11 2026. No macro, syntax, notation, axiom, sorry.
-/
import Derived.Test.YthdbgjhonnogpaaDoorRows
import GoSem.ClaimSeven
namespace Go.Proofs.YthdbgjhonnogpaaDoor
namespace Rows

/-- THE TIED CARD OF 'laws.FnMvCheck'. -/
def fnMvCheckCard : Claim7 := { stood := { row := fnMvCheckRow, standIns := [], harness := (true, "a05ca5c894b5199b9b8b47981cfd86ca3a67b8d91371175f63d140d68c205413"), looks := false }, kinds := [], alts := [], laidByText := true, laidKinds := [.data, .data, .data, .data, .data, .data, .data], laidTests := true, laidLooks := .later }
def FnMvCheckCardSaid : Prop := Claim7.holds Tryd.pinned (.plain (OpenSpec.ofChange fnMvCheckSpec)) fnMvCheckCard

/-- THE TIED CARD OF 'laws.FnBiPossible'. -/
def fnBiPossibleCard : Claim7 := { stood := { row := fnBiPossibleRow, standIns := [], harness := (true, "a05ca5c894b5199b9b8b47981cfd86ca3a67b8d91371175f63d140d68c205413"), looks := false }, kinds := [], alts := [], laidByText := true, laidKinds := [.data, .data, .data, .data, .data, .data, .data], laidTests := true, laidLooks := .later }
def FnBiPossibleCardSaid : Prop := Claim7.holds Tryd.pinned (.plain (OpenSpec.ofChange fnBiPossibleSpec)) fnBiPossibleCard

/-- THE SECOND FORM's CARD OF 'laws.FnMvCheck'. -/
def fnMvCheckUptoCard : Claim7 := { stood := { row := fnMvCheckUptoRow, standIns := [], harness := (true, "a05ca5c894b5199b9b8b47981cfd86ca3a67b8d91371175f63d140d68c205413"), looks := false }, kinds := [], alts := [], laidByText := true, laidKinds := [.data, .data, .data, .data, .data, .data, .data], laidTests := true, laidLooks := .later }
def FnMvCheckUptoCardSaid : Prop := Claim7.holds Tryd.pinned (.plain (OpenSpec.upto fnMvCheckSpec)) fnMvCheckUptoCard

/-- THE SECOND FORM's CARD OF 'laws.FnBiPossible'. -/
def fnBiPossibleUptoCard : Claim7 := { stood := { row := fnBiPossibleUptoRow, standIns := [], harness := (true, "a05ca5c894b5199b9b8b47981cfd86ca3a67b8d91371175f63d140d68c205413"), looks := false }, kinds := [], alts := [], laidByText := true, laidKinds := [.data, .data, .data, .data, .data, .data, .data], laidTests := true, laidLooks := .later }
def FnBiPossibleUptoCardSaid : Prop := Claim7.holds Tryd.pinned (.plain (OpenSpec.upto fnBiPossibleSpec)) fnBiPossibleUptoCard
end Rows
end Go.Proofs.YthdbgjhonnogpaaDoor

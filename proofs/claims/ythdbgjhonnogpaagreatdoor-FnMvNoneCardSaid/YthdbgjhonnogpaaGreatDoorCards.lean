/-
  DERIVED. GIVEN WITH THE SEED: THE CARDS: each row of YthdbgjhonnogpaaGreatDoorRows.lean that lists a variable, with what it lists TIED to the program's text (the seventh form; the later family's looks); each row that meets fmt, with fmt's text TOLD by the authors' own Lean function (tested against real Go, not proved from fmt's source: count such statements apart). THE CARD IS WHAT COUNTS. Prove the row's statement (the work); the ties are given (YthdbgjhonnogpaaGreatDoorTie.lean); close each card by the builder's one call (the guide's Derived/Test/ToyasCard.lean, 'card_holds'). Laid BY PROGRAM, IN A SANDBOX (cutbox-door.mjs). By AI agents, Wed Nov 11 2026. No macro, syntax, notation, axiom, sorry.
-/
import Derived.Test.YthdbgjhonnogpaaGreatDoorRows
import GoSem.ClaimSeven
namespace Go.Proofs.YthdbgjhonnogpaaGreatDoor
namespace Rows

/-- THE TIED CARD OF 'laws.FnMvTurned'. -/
def fnMvTurnedCard : Claim7 := { stood := { row := fnMvTurnedRow, standIns := [], harness := (true, "f5bebabc2b1592f1c977bc0556b61a6769b74bbee6b3296189035725b2e23271"), looks := false }, kinds := [], alts := [], laidByText := true, laidKinds := [.data, .data, .data, .data, .data, .data, .data, .data, .pinned, .pinned], laidTests := true, laidLooks := .later }
def FnMvTurnedCardSaid : Prop := Claim7.holds Tryz.pinned (.plain (OpenSpec.ofChange fnMvTurnedSpec)) fnMvTurnedCard

/-- THE TIED CARD OF 'laws.FnMvNone'. -/
def fnMvNoneCard : Claim7 := { stood := { row := fnMvNoneRow, standIns := [], harness := (true, "f5bebabc2b1592f1c977bc0556b61a6769b74bbee6b3296189035725b2e23271"), looks := false }, kinds := [], alts := [], laidByText := true, laidKinds := [.data, .data, .data, .data, .data, .data, .data, .data, .pinned, .pinned], laidTests := true, laidLooks := .later }
def FnMvNoneCardSaid : Prop := Claim7.holds Tryz.pinned (.plain (OpenSpec.ofChange fnMvNoneSpec)) fnMvNoneCard

/-- THE SECOND FORM's CARD OF 'laws.FnMvTurned'. -/
def fnMvTurnedUptoCard : Claim7 := { stood := { row := fnMvTurnedUptoRow, standIns := [], harness := (true, "f5bebabc2b1592f1c977bc0556b61a6769b74bbee6b3296189035725b2e23271"), looks := false }, kinds := [], alts := [], laidByText := true, laidKinds := [.data, .data, .data, .data, .data, .data, .data, .data, .pinned, .pinned], laidTests := true, laidLooks := .later }
def FnMvTurnedUptoCardSaid : Prop := Claim7.holds Tryz.pinned (.plain (OpenSpec.upto fnMvTurnedSpec)) fnMvTurnedUptoCard

/-- THE SECOND FORM's CARD OF 'laws.FnMvNone'. -/
def fnMvNoneUptoCard : Claim7 := { stood := { row := fnMvNoneUptoRow, standIns := [], harness := (true, "f5bebabc2b1592f1c977bc0556b61a6769b74bbee6b3296189035725b2e23271"), looks := false }, kinds := [], alts := [], laidByText := true, laidKinds := [.data, .data, .data, .data, .data, .data, .data, .data, .pinned, .pinned], laidTests := true, laidLooks := .later }
def FnMvNoneUptoCardSaid : Prop := Claim7.holds Tryz.pinned (.plain (OpenSpec.upto fnMvNoneSpec)) fnMvNoneUptoCard
end Rows
end Go.Proofs.YthdbgjhonnogpaaGreatDoor

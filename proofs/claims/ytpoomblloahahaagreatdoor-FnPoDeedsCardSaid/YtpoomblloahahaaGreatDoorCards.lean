/-
  DERIVED. GIVEN WITH THE SEED: THE CARDS: each row of YtpoomblloahahaaGreatDoorRows.lean that lists a variable, with what it lists TIED to the program's text (the seventh form; the later family's looks); each row that meets fmt, with fmt's text TOLD by the authors' own Lean function (tested against real Go, not proved from fmt's source: count such statements apart). THE CARD IS WHAT COUNTS. Prove the row's statement (the work); the ties are given (YtpoomblloahahaaGreatDoorTie.lean); close each card by the builder's one call (the guide's Derived/Test/ToyasCard.lean, 'card_holds'). Laid BY PROGRAM, IN A SANDBOX (cutbox-door.mjs). By AI agents, Wed Nov 11 2026. No macro, syntax, notation, axiom, sorry.
-/
import Derived.Test.YtpoomblloahahaaGreatDoorRows
import GoSem.ClaimSeven
namespace Go.Proofs.YtpoomblloahahaaGreatDoor
namespace Rows

/-- THE TIED CARD OF 'laws.FnPoDeeds'. -/
def fnPoDeedsCard : Claim7 := { stood := { row := fnPoDeedsRow, standIns := [], harness := (true, "2560275e70ca399faa91e624c739f0b23f7a21d682e938a9354844155204d381"), looks := true }, kinds := [], alts := [], laidByText := true, laidKinds := [.sentinel, .data, .data, .data, .data, .data, .data, .data], laidTests := true, laidLooks := .later }
def FnPoDeedsCardSaid : Prop := Claim7.holds Tryz.pinned (.plain (OpenSpec.ofChange fnPoDeedsSpec)) fnPoDeedsCard

/-- THE SECOND FORM's CARD OF 'laws.FnPoDeeds'. -/
def fnPoDeedsUptoCard : Claim7 := { stood := { row := fnPoDeedsUptoRow, standIns := [], harness := (true, "2560275e70ca399faa91e624c739f0b23f7a21d682e938a9354844155204d381"), looks := true }, kinds := [], alts := [], laidByText := true, laidKinds := [.sentinel, .data, .data, .data, .data, .data, .data, .data], laidTests := true, laidLooks := .later }
def FnPoDeedsUptoCardSaid : Prop := Claim7.holds Tryz.pinned (.plain (OpenSpec.upto fnPoDeedsSpec)) fnPoDeedsUptoCard
end Rows
end Go.Proofs.YtpoomblloahahaaGreatDoor

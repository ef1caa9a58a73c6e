/-
  DERIVED. GIVEN WITH THE SEED: THE CARDS: each row of YtpoomblloahahaaDoorRows.lean that lists a variable, with what it lists TIED to the program's text (the seventh form; the later family's looks); each row that meets fmt, with fmt's text TOLD by the authors' own Lean function (tested against real Go, not proved from fmt's source: count such statements apart). THE CARD IS WHAT COUNTS. Prove the row's statement (the work); the ties are given (YtpoomblloahahaaDoorTie.lean); close each card by the builder's one call (the guide's Derived/Test/ToyasCard.lean, 'card_holds'). Laid BY PROGRAM, IN A SANDBOX (cutbox-door.mjs). By AI agents, Wed Nov 11 2026. No macro, syntax, notation, axiom, sorry.
-/
import Derived.Test.YtpoomblloahahaaDoorRows
import GoSem.ClaimSeven
namespace Go.Proofs.YtpoomblloahahaaDoor
namespace Rows

/-- THE TIED CARD OF 'laws.FnPoBook'. -/
def fnPoBookCard : Claim7 := { stood := { row := fnPoBookRow, standIns := [], harness := (true, "cf48ec453a09645c6902c25242f5abb900523a0c56ff69de3627e5cc4eb84d44"), looks := true }, kinds := [], alts := [], laidByText := true, laidKinds := [.sentinel], laidTests := true, laidLooks := .later }
def FnPoBookCardSaid : Prop := Claim7.holds Tryd.pinned (.plain (OpenSpec.ofChange fnPoBookSpec)) fnPoBookCard

/-- THE SECOND FORM's CARD OF 'laws.FnPoBook'. -/
def fnPoBookUptoCard : Claim7 := { stood := { row := fnPoBookUptoRow, standIns := [], harness := (true, "cf48ec453a09645c6902c25242f5abb900523a0c56ff69de3627e5cc4eb84d44"), looks := true }, kinds := [], alts := [], laidByText := true, laidKinds := [.sentinel], laidTests := true, laidLooks := .later }
def FnPoBookUptoCardSaid : Prop := Claim7.holds Tryd.pinned (.plain (OpenSpec.upto fnPoBookSpec)) fnPoBookUptoCard
end Rows
end Go.Proofs.YtpoomblloahahaaDoor

/-
  DERIVED. GIVEN WITH THE SEED: THE CARDS: each row of YtoigijloeillbaaDoorRows.lean that lists a variable, with what it lists TIED to the program's text (the seventh form; the later family's looks); each row that meets fmt, with fmt's text TOLD by the authors' own Lean function (tested against real Go, not proved from fmt's source: count such statements apart). THE CARD IS WHAT COUNTS. Prove the row's statement (the work); the ties are given (YtoigijloeillbaaDoorTie.lean); close each card by the builder's one call (the guide's Derived/Test/ToyasCard.lean, 'card_holds'). Laid BY PROGRAM, IN A SANDBOX (cutbox-door.mjs). By AI agents, Wed Nov 11 2026. No macro, syntax, notation, axiom, sorry.
-/
import Derived.Test.YtoigijloeillbaaDoorRows
import GoSem.ClaimSeven
namespace Go.Proofs.YtoigijloeillbaaDoor
namespace Rows

/-- THE TIED CARD OF 'laws.FnPoMove'. -/
def fnPoMoveCard : Claim7 := { stood := { row := fnPoMoveRow, standIns := [], harness := (true, "01572bb664f5fa12d4b5d79c3a54f180f63bbd6abab3606276459c77af2bbefb"), looks := false }, kinds := [], alts := [], laidByText := true, laidKinds := [.data, .data, .data, .data, .data, .data, .data], laidTests := true, laidLooks := .later }
def FnPoMoveCardSaid : Prop := Claim7.holds Tryd.pinned (.plain (OpenSpec.ofChange fnPoMoveSpec)) fnPoMoveCard

/-- THE TIED CARD OF 'laws.FnPoBack'. -/
def fnPoBackCard : Claim7 := { stood := { row := fnPoBackRow, standIns := [], harness := (true, "01572bb664f5fa12d4b5d79c3a54f180f63bbd6abab3606276459c77af2bbefb"), looks := false }, kinds := [], alts := [], laidByText := true, laidKinds := [.data, .data, .data, .data, .data, .data, .data], laidTests := true, laidLooks := .later }
def FnPoBackCardSaid : Prop := Claim7.holds Tryd.pinned (.plain (OpenSpec.ofChange fnPoBackSpec)) fnPoBackCard

/-- THE TIED CARD OF 'laws.FnUciText'. -/
def fnUciTextCard : Claim7 := { stood := { row := fnUciTextRow, standIns := [], harness := (true, "01572bb664f5fa12d4b5d79c3a54f180f63bbd6abab3606276459c77af2bbefb"), looks := false }, kinds := [], alts := [], laidByText := true, laidKinds := [.data, .data, .data, .data, .data, .data, .data], laidTests := true, laidLooks := .later }
def FnUciTextCardSaid : Prop := Claim7.holds Tryd.pinned (.plain (OpenSpec.ofChange fnUciTextSpec)) fnUciTextCard

/-- THE SECOND FORM's CARD OF 'laws.FnPoMove'. -/
def fnPoMoveUptoCard : Claim7 := { stood := { row := fnPoMoveUptoRow, standIns := [], harness := (true, "01572bb664f5fa12d4b5d79c3a54f180f63bbd6abab3606276459c77af2bbefb"), looks := false }, kinds := [], alts := [], laidByText := true, laidKinds := [.data, .data, .data, .data, .data, .data, .data], laidTests := true, laidLooks := .later }
def FnPoMoveUptoCardSaid : Prop := Claim7.holds Tryd.pinned (.plain (OpenSpec.upto fnPoMoveSpec)) fnPoMoveUptoCard

/-- THE SECOND FORM's CARD OF 'laws.FnPoBack'. -/
def fnPoBackUptoCard : Claim7 := { stood := { row := fnPoBackUptoRow, standIns := [], harness := (true, "01572bb664f5fa12d4b5d79c3a54f180f63bbd6abab3606276459c77af2bbefb"), looks := false }, kinds := [], alts := [], laidByText := true, laidKinds := [.data, .data, .data, .data, .data, .data, .data], laidTests := true, laidLooks := .later }
def FnPoBackUptoCardSaid : Prop := Claim7.holds Tryd.pinned (.plain (OpenSpec.upto fnPoBackSpec)) fnPoBackUptoCard

/-- THE SECOND FORM's CARD OF 'laws.FnUciText'. -/
def fnUciTextUptoCard : Claim7 := { stood := { row := fnUciTextUptoRow, standIns := [], harness := (true, "01572bb664f5fa12d4b5d79c3a54f180f63bbd6abab3606276459c77af2bbefb"), looks := false }, kinds := [], alts := [], laidByText := true, laidKinds := [.data, .data, .data, .data, .data, .data, .data], laidTests := true, laidLooks := .later }
def FnUciTextUptoCardSaid : Prop := Claim7.holds Tryd.pinned (.plain (OpenSpec.upto fnUciTextSpec)) fnUciTextUptoCard
end Rows
end Go.Proofs.YtoigijloeillbaaDoor

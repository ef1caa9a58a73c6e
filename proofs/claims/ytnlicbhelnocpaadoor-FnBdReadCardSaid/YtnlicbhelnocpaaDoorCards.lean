/-
  DERIVED. GIVEN WITH THE SEED: THE CARDS: each row of YtnlicbhelnocpaaDoorRows.lean that lists a variable, with what it lists TIED to the program's text (the seventh form; the later family's looks); each row that meets fmt, with fmt's text TOLD by the authors' own Lean function (tested against real Go, not proved from fmt's source: count such statements apart). THE CARD IS WHAT COUNTS. Prove the row's statement (the work); the ties are given (YtnlicbhelnocpaaDoorTie.lean); close each card by the builder's one call (the guide's Derived/Test/ToyasCard.lean, 'card_holds'). Laid BY PROGRAM, IN A SANDBOX (cutbox-door.mjs). By AI agents, Wed Nov 11 2026. No macro, syntax, notation, axiom, sorry.
-/
import Derived.Test.YtnlicbhelnocpaaDoorRows
import GoSem.ClaimSeven
namespace Go.Proofs.YtnlicbhelnocpaaDoor
namespace Rows

/-- THE TIED CARD OF 'laws.FnBdWrong'. -/
def fnBdWrongCard : Claim7 := { stood := { row := fnBdWrongRow, standIns := [], harness := (true, "7422e9ccb63107bab447864fd415093510f8a49c4ca9b7fd30f4689052bdd4c6"), looks := false }, kinds := [], alts := [], laidByText := true, laidKinds := [.data], laidTests := true, laidLooks := .later }
def FnBdWrongCardSaid : Prop := Claim7.holds Tryd.pinned (.plain (OpenSpec.ofChange fnBdWrongSpec)) fnBdWrongCard

/-- THE TIED CARD OF 'laws.FnMvSuffices'. -/
def fnMvSufficesCard : Claim7 := { stood := { row := fnMvSufficesRow, standIns := [], harness := (true, "7422e9ccb63107bab447864fd415093510f8a49c4ca9b7fd30f4689052bdd4c6"), looks := false }, kinds := [], alts := [], laidByText := true, laidKinds := [.data], laidTests := true, laidLooks := .later }
def FnMvSufficesCardSaid : Prop := Claim7.holds Tryd.pinned (.plain (OpenSpec.ofChange fnMvSufficesSpec)) fnMvSufficesCard

/-- THE TIED CARD OF 'laws.FnBdDraw'. -/
def fnBdDrawCard : Claim7 := { stood := { row := fnBdDrawRow, standIns := [], harness := (true, "7422e9ccb63107bab447864fd415093510f8a49c4ca9b7fd30f4689052bdd4c6"), looks := false }, kinds := [], alts := [], laidByText := true, laidKinds := [.data, .data, .data], laidTests := true, laidLooks := .later }
def FnBdDrawCardSaid : Prop := Claim7.holds Tryd.pinned (.plain (OpenSpec.ofChange fnBdDrawSpec)) fnBdDrawCard

/-- THE TIED CARD OF 'laws.FnBdRead'. -/
def fnBdReadCard : Claim7 := { stood := { row := fnBdReadRow, standIns := [], harness := (true, "7422e9ccb63107bab447864fd415093510f8a49c4ca9b7fd30f4689052bdd4c6"), looks := false }, kinds := [], alts := [], laidByText := true, laidKinds := [.data, .data], laidTests := true, laidLooks := .later }
def FnBdReadCardSaid : Prop := Claim7.holds Tryd.pinned (.plain (OpenSpec.ofChange fnBdReadSpec)) fnBdReadCard

/-- THE TIED CARD OF 'laws.FnMvCheck'. -/
def fnMvCheckCard : Claim7 := { stood := { row := fnMvCheckRow, standIns := [], harness := (true, "7422e9ccb63107bab447864fd415093510f8a49c4ca9b7fd30f4689052bdd4c6"), looks := false }, kinds := [], alts := [], laidByText := true, laidKinds := [.data, .data, .data, .data, .data, .data, .data], laidTests := true, laidLooks := .later }
def FnMvCheckCardSaid : Prop := Claim7.holds Tryd.pinned (.plain (OpenSpec.ofChange fnMvCheckSpec)) fnMvCheckCard

/-- THE TIED CARD OF 'laws.FnBiPossible'. -/
def fnBiPossibleCard : Claim7 := { stood := { row := fnBiPossibleRow, standIns := [], harness := (true, "7422e9ccb63107bab447864fd415093510f8a49c4ca9b7fd30f4689052bdd4c6"), looks := false }, kinds := [], alts := [], laidByText := true, laidKinds := [.data, .data, .data, .data, .data, .data, .data], laidTests := true, laidLooks := .later }
def FnBiPossibleCardSaid : Prop := Claim7.holds Tryd.pinned (.plain (OpenSpec.ofChange fnBiPossibleSpec)) fnBiPossibleCard

/-- THE SECOND FORM's CARD OF 'laws.FnBdWrong'. -/
def fnBdWrongUptoCard : Claim7 := { stood := { row := fnBdWrongUptoRow, standIns := [], harness := (true, "7422e9ccb63107bab447864fd415093510f8a49c4ca9b7fd30f4689052bdd4c6"), looks := false }, kinds := [], alts := [], laidByText := true, laidKinds := [.data], laidTests := true, laidLooks := .later }
def FnBdWrongUptoCardSaid : Prop := Claim7.holds Tryd.pinned (.plain (OpenSpec.upto fnBdWrongSpec)) fnBdWrongUptoCard

/-- THE SECOND FORM's CARD OF 'laws.FnMvSuffices'. -/
def fnMvSufficesUptoCard : Claim7 := { stood := { row := fnMvSufficesUptoRow, standIns := [], harness := (true, "7422e9ccb63107bab447864fd415093510f8a49c4ca9b7fd30f4689052bdd4c6"), looks := false }, kinds := [], alts := [], laidByText := true, laidKinds := [.data], laidTests := true, laidLooks := .later }
def FnMvSufficesUptoCardSaid : Prop := Claim7.holds Tryd.pinned (.plain (OpenSpec.upto fnMvSufficesSpec)) fnMvSufficesUptoCard

/-- THE SECOND FORM's CARD OF 'laws.FnBdDraw'. -/
def fnBdDrawUptoCard : Claim7 := { stood := { row := fnBdDrawUptoRow, standIns := [], harness := (true, "7422e9ccb63107bab447864fd415093510f8a49c4ca9b7fd30f4689052bdd4c6"), looks := false }, kinds := [], alts := [], laidByText := true, laidKinds := [.data, .data, .data], laidTests := true, laidLooks := .later }
def FnBdDrawUptoCardSaid : Prop := Claim7.holds Tryd.pinned (.plain (OpenSpec.upto fnBdDrawSpec)) fnBdDrawUptoCard

/-- THE SECOND FORM's CARD OF 'laws.FnBdRead'. -/
def fnBdReadUptoCard : Claim7 := { stood := { row := fnBdReadUptoRow, standIns := [], harness := (true, "7422e9ccb63107bab447864fd415093510f8a49c4ca9b7fd30f4689052bdd4c6"), looks := false }, kinds := [], alts := [], laidByText := true, laidKinds := [.data, .data], laidTests := true, laidLooks := .later }
def FnBdReadUptoCardSaid : Prop := Claim7.holds Tryd.pinned (.plain (OpenSpec.upto fnBdReadSpec)) fnBdReadUptoCard

/-- THE SECOND FORM's CARD OF 'laws.FnMvCheck'. -/
def fnMvCheckUptoCard : Claim7 := { stood := { row := fnMvCheckUptoRow, standIns := [], harness := (true, "7422e9ccb63107bab447864fd415093510f8a49c4ca9b7fd30f4689052bdd4c6"), looks := false }, kinds := [], alts := [], laidByText := true, laidKinds := [.data, .data, .data, .data, .data, .data, .data], laidTests := true, laidLooks := .later }
def FnMvCheckUptoCardSaid : Prop := Claim7.holds Tryd.pinned (.plain (OpenSpec.upto fnMvCheckSpec)) fnMvCheckUptoCard

/-- THE SECOND FORM's CARD OF 'laws.FnBiPossible'. -/
def fnBiPossibleUptoCard : Claim7 := { stood := { row := fnBiPossibleUptoRow, standIns := [], harness := (true, "7422e9ccb63107bab447864fd415093510f8a49c4ca9b7fd30f4689052bdd4c6"), looks := false }, kinds := [], alts := [], laidByText := true, laidKinds := [.data, .data, .data, .data, .data, .data, .data], laidTests := true, laidLooks := .later }
def FnBiPossibleUptoCardSaid : Prop := Claim7.holds Tryd.pinned (.plain (OpenSpec.upto fnBiPossibleSpec)) fnBiPossibleUptoCard
end Rows
end Go.Proofs.YtnlicbhelnocpaaDoor

/-
  DERIVED. GIVEN WITH THE SEED: THE CARDS: each row of YtjbmphfgckhaeaaDoorRows.lean that lists a variable, with what it lists TIED to the program's text (the seventh form; the later family's looks); each row that meets fmt, with fmt's text TOLD by the authors' own Lean function (tested against real Go, not proved from fmt's source: count such statements apart). THE CARD IS WHAT COUNTS. Prove the row's statement (the work); the ties are given (YtjbmphfgckhaeaaDoorTie.lean); close each card by the builder's one call (the guide's Derived/Test/ToyasCard.lean, 'card_holds'). Laid BY PROGRAM, IN A SANDBOX (cutbox-door.mjs). By AI agents, Wed Nov 11 2026. No macro, syntax, notation, axiom, sorry.
-/
import Derived.Test.YtjbmphfgckhaeaaDoorRows
import GoSem.ClaimSeven
namespace Go.Proofs.YtjbmphfgckhaeaaDoor
namespace Rows

/-- THE TIED CARD OF 'laws.FnOperation'. -/
def fnOperationCard : Claim7 := { stood := { row := fnOperationRow, standIns := [], harness := (true, "c6db099c6eb91f3a3216051661d8a245d87db37fa2e53459a7e55c2485145660"), looks := true }, kinds := [], alts := [], laidByText := true, laidKinds := [.data, .data, .data, .data, .sentinel, .sentinel, .pinned], laidTests := true, laidLooks := .later }
def FnOperationCardSaid : Prop := Claim7.holds Tryd.pinned (.plain (OpenSpec.ofChange fnOperationSpec)) fnOperationCard

/-- THE TIED CARD OF 'laws.FnIndexIsAdded'. -/
def fnIndexIsAddedCard : Claim7 := { stood := { row := fnIndexIsAddedRow, standIns := [], harness := (true, "c6db099c6eb91f3a3216051661d8a245d87db37fa2e53459a7e55c2485145660"), looks := true }, kinds := [], alts := [], laidByText := true, laidKinds := [.data, .data, .data, .data, .sentinel, .sentinel, .pinned], laidTests := true, laidLooks := .later }
def FnIndexIsAddedCardSaid : Prop := Claim7.holds Tryd.pinned (.plain (OpenSpec.ofChange fnIndexIsAddedSpec)) fnIndexIsAddedCard

/-- THE TIED CARD OF 'laws.FnParse'. -/
def fnParseCard : Claim7 := { stood := { row := fnParseRow, standIns := [], harness := (true, "c6db099c6eb91f3a3216051661d8a245d87db37fa2e53459a7e55c2485145660"), looks := true }, kinds := [], alts := [], laidByText := true, laidKinds := [.data, .data, .data, .data, .sentinel, .sentinel, .pinned], laidTests := true, laidLooks := .later }
def FnParseCardSaid : Prop := Claim7.holds Tryd.pinned (.plain (OpenSpec.ofChange fnParseSpec)) fnParseCard

/-- THE TIED CARD OF 'laws.FnPlainTextMoves'. -/
def fnPlainTextMovesCard : Claim7 := { stood := { row := fnPlainTextMovesRow, standIns := [], harness := (true, "c6db099c6eb91f3a3216051661d8a245d87db37fa2e53459a7e55c2485145660"), looks := true }, kinds := [], alts := [], laidByText := true, laidKinds := [.data, .data, .data, .data, .sentinel, .sentinel, .pinned], laidTests := true, laidLooks := .later }
def FnPlainTextMovesCardSaid : Prop := Claim7.holds Tryd.pinned (.plain (OpenSpec.ofChange fnPlainTextMovesSpec)) fnPlainTextMovesCard

/-- THE TIED CARD OF 'laws.FnTextsStandThere'. -/
def fnTextsStandThereCard : Claim7 := { stood := { row := fnTextsStandThereRow, standIns := [], harness := (true, "c6db099c6eb91f3a3216051661d8a245d87db37fa2e53459a7e55c2485145660"), looks := true }, kinds := [], alts := [], laidByText := true, laidKinds := [.data, .data, .data, .data, .sentinel, .sentinel, .pinned], laidTests := true, laidLooks := .later }
def FnTextsStandThereCardSaid : Prop := Claim7.holds Tryd.pinned (.plain (OpenSpec.ofChange fnTextsStandThereSpec)) fnTextsStandThereCard

/-- THE TIED CARD OF 'laws.FnWrittenIsParsed'. -/
def fnWrittenIsParsedCard : Claim7 := { stood := { row := fnWrittenIsParsedRow, standIns := [], harness := (true, "c6db099c6eb91f3a3216051661d8a245d87db37fa2e53459a7e55c2485145660"), looks := true }, kinds := [], alts := [], laidByText := true, laidKinds := [.data, .data, .data, .data, .sentinel, .sentinel, .pinned], laidTests := true, laidLooks := .later }
def FnWrittenIsParsedCardSaid : Prop := Claim7.holds Tryd.pinned (.plain (OpenSpec.ofChange fnWrittenIsParsedSpec)) fnWrittenIsParsedCard

/-- THE SECOND FORM's CARD OF 'laws.FnOperation'. -/
def fnOperationUptoCard : Claim7 := { stood := { row := fnOperationUptoRow, standIns := [], harness := (true, "c6db099c6eb91f3a3216051661d8a245d87db37fa2e53459a7e55c2485145660"), looks := true }, kinds := [], alts := [], laidByText := true, laidKinds := [.data, .data, .data, .data, .sentinel, .sentinel, .pinned], laidTests := true, laidLooks := .later }
def FnOperationUptoCardSaid : Prop := Claim7.holds Tryd.pinned (.plain (OpenSpec.upto fnOperationSpec)) fnOperationUptoCard

/-- THE SECOND FORM's CARD OF 'laws.FnIndexIsAdded'. -/
def fnIndexIsAddedUptoCard : Claim7 := { stood := { row := fnIndexIsAddedUptoRow, standIns := [], harness := (true, "c6db099c6eb91f3a3216051661d8a245d87db37fa2e53459a7e55c2485145660"), looks := true }, kinds := [], alts := [], laidByText := true, laidKinds := [.data, .data, .data, .data, .sentinel, .sentinel, .pinned], laidTests := true, laidLooks := .later }
def FnIndexIsAddedUptoCardSaid : Prop := Claim7.holds Tryd.pinned (.plain (OpenSpec.upto fnIndexIsAddedSpec)) fnIndexIsAddedUptoCard

/-- THE SECOND FORM's CARD OF 'laws.FnParse'. -/
def fnParseUptoCard : Claim7 := { stood := { row := fnParseUptoRow, standIns := [], harness := (true, "c6db099c6eb91f3a3216051661d8a245d87db37fa2e53459a7e55c2485145660"), looks := true }, kinds := [], alts := [], laidByText := true, laidKinds := [.data, .data, .data, .data, .sentinel, .sentinel, .pinned], laidTests := true, laidLooks := .later }
def FnParseUptoCardSaid : Prop := Claim7.holds Tryd.pinned (.plain (OpenSpec.upto fnParseSpec)) fnParseUptoCard

/-- THE SECOND FORM's CARD OF 'laws.FnPlainTextMoves'. -/
def fnPlainTextMovesUptoCard : Claim7 := { stood := { row := fnPlainTextMovesUptoRow, standIns := [], harness := (true, "c6db099c6eb91f3a3216051661d8a245d87db37fa2e53459a7e55c2485145660"), looks := true }, kinds := [], alts := [], laidByText := true, laidKinds := [.data, .data, .data, .data, .sentinel, .sentinel, .pinned], laidTests := true, laidLooks := .later }
def FnPlainTextMovesUptoCardSaid : Prop := Claim7.holds Tryd.pinned (.plain (OpenSpec.upto fnPlainTextMovesSpec)) fnPlainTextMovesUptoCard

/-- THE SECOND FORM's CARD OF 'laws.FnTextsStandThere'. -/
def fnTextsStandThereUptoCard : Claim7 := { stood := { row := fnTextsStandThereUptoRow, standIns := [], harness := (true, "c6db099c6eb91f3a3216051661d8a245d87db37fa2e53459a7e55c2485145660"), looks := true }, kinds := [], alts := [], laidByText := true, laidKinds := [.data, .data, .data, .data, .sentinel, .sentinel, .pinned], laidTests := true, laidLooks := .later }
def FnTextsStandThereUptoCardSaid : Prop := Claim7.holds Tryd.pinned (.plain (OpenSpec.upto fnTextsStandThereSpec)) fnTextsStandThereUptoCard

/-- THE SECOND FORM's CARD OF 'laws.FnWrittenIsParsed'. -/
def fnWrittenIsParsedUptoCard : Claim7 := { stood := { row := fnWrittenIsParsedUptoRow, standIns := [], harness := (true, "c6db099c6eb91f3a3216051661d8a245d87db37fa2e53459a7e55c2485145660"), looks := true }, kinds := [], alts := [], laidByText := true, laidKinds := [.data, .data, .data, .data, .sentinel, .sentinel, .pinned], laidTests := true, laidLooks := .later }
def FnWrittenIsParsedUptoCardSaid : Prop := Claim7.holds Tryd.pinned (.plain (OpenSpec.upto fnWrittenIsParsedSpec)) fnWrittenIsParsedUptoCard
end Rows
end Go.Proofs.YtjbmphfgckhaeaaDoor

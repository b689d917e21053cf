/-
  DERIVED. GIVEN WITH THE SEED: THE CARDS: each row of YtaagcdlghoiolaaDoorRows.lean that lists a variable, with what it lists TIED to the program's text (the seventh form; the later family's looks); each row that meets fmt, with fmt's text TOLD by the authors' own Lean function (tested against real Go, not proved from fmt's source: count such statements apart). THE CARD IS WHAT COUNTS. Prove the row's statement (the work); the ties are given (YtaagcdlghoiolaaDoorTie.lean); close each card by the builder's one call (the guide's Derived/Test/ToyasCard.lean, 'card_holds'). Laid BY PROGRAM, IN A SANDBOX (cutbox-door.mjs). By AI agents, Wed Nov 11 2026. No macro, syntax, notation, axiom, sorry.
-/
import Derived.Test.YtaagcdlghoiolaaDoorRows
import GoSem.ClaimSeven
namespace Go.Proofs.YtaagcdlghoiolaaDoor
namespace Rows

/-- THE TIED CARD OF 'laws.FnTwoLines'. -/
def fnTwoLinesCard : Claim7 := { stood := { row := fnTwoLinesRow, standIns := [], harness := (true, "a04c843f67fc0f0de40c12588fed13e6bdaab014a63bd7b495b3c033d1782c4d"), looks := true }, kinds := [], alts := [], laidByText := true, laidKinds := [.data, .sentinel, .pinned], laidTests := true, laidLooks := .later }
def FnTwoLinesCardSaid : Prop := Claim7.holds Tryd.pinned (.plain (OpenSpec.ofChange fnTwoLinesSpec)) fnTwoLinesCard

/-- THE TIED CARD OF 'laws.FnExactAgain'. -/
def fnExactAgainCard : Claim7 := { stood := { row := fnExactAgainRow, standIns := [], harness := (true, "a04c843f67fc0f0de40c12588fed13e6bdaab014a63bd7b495b3c033d1782c4d"), looks := true }, kinds := [], alts := [], laidByText := true, laidKinds := [.data, .sentinel, .pinned], laidTests := true, laidLooks := .later }
def FnExactAgainCardSaid : Prop := Claim7.holds Tryd.pinned (.plain (OpenSpec.ofChange fnExactAgainSpec)) fnExactAgainCard

/-- THE TIED CARD OF 'laws.FnAlignedStays'. -/
def fnAlignedStaysCard : Claim7 := { stood := { row := fnAlignedStaysRow, standIns := [], harness := (true, "a04c843f67fc0f0de40c12588fed13e6bdaab014a63bd7b495b3c033d1782c4d"), looks := true }, kinds := [], alts := [], laidByText := true, laidKinds := [.data, .sentinel, .pinned], laidTests := true, laidLooks := .later }
def FnAlignedStaysCardSaid : Prop := Claim7.holds Tryd.pinned (.plain (OpenSpec.ofChange fnAlignedStaysSpec)) fnAlignedStaysCard

/-- THE TIED CARD OF 'laws.FnExactFull'. -/
def fnExactFullCard : Claim7 := { stood := { row := fnExactFullRow, standIns := [], harness := (true, "a04c843f67fc0f0de40c12588fed13e6bdaab014a63bd7b495b3c033d1782c4d"), looks := true }, kinds := [], alts := [], laidByText := true, laidKinds := [.data, .sentinel, .sentinel, .pinned], laidTests := true, laidLooks := .later }
def FnExactFullCardSaid : Prop := Claim7.holds Tryd.pinned (.plain (OpenSpec.ofChange fnExactFullSpec)) fnExactFullCard

/-- THE TIED CARD OF 'laws.FnOneLine'. -/
def fnOneLineCard : Claim7 := { stood := { row := fnOneLineRow, standIns := [], harness := (true, "a04c843f67fc0f0de40c12588fed13e6bdaab014a63bd7b495b3c033d1782c4d"), looks := true }, kinds := [], alts := [], laidByText := true, laidKinds := [.data, .sentinel, .pinned], laidTests := true, laidLooks := .later }
def FnOneLineCardSaid : Prop := Claim7.holds Tryd.pinned (.plain (OpenSpec.ofChange fnOneLineSpec)) fnOneLineCard

/-- THE TIED CARD OF 'laws.FnStripped'. -/
def fnStrippedCard : Claim7 := { stood := { row := fnStrippedRow, standIns := [], harness := (true, "a04c843f67fc0f0de40c12588fed13e6bdaab014a63bd7b495b3c033d1782c4d"), looks := true }, kinds := [], alts := [], laidByText := true, laidKinds := [.data, .sentinel, .pinned], laidTests := true, laidLooks := .later }
def FnStrippedCardSaid : Prop := Claim7.holds Tryd.pinned (.plain (OpenSpec.ofChange fnStrippedSpec)) fnStrippedCard

/-- THE SECOND FORM's CARD OF 'laws.FnTwoLines'. -/
def fnTwoLinesUptoCard : Claim7 := { stood := { row := fnTwoLinesUptoRow, standIns := [], harness := (true, "a04c843f67fc0f0de40c12588fed13e6bdaab014a63bd7b495b3c033d1782c4d"), looks := true }, kinds := [], alts := [], laidByText := true, laidKinds := [.data, .sentinel, .pinned], laidTests := true, laidLooks := .later }
def FnTwoLinesUptoCardSaid : Prop := Claim7.holds Tryd.pinned (.plain (OpenSpec.upto fnTwoLinesSpec)) fnTwoLinesUptoCard

/-- THE SECOND FORM's CARD OF 'laws.FnExactAgain'. -/
def fnExactAgainUptoCard : Claim7 := { stood := { row := fnExactAgainUptoRow, standIns := [], harness := (true, "a04c843f67fc0f0de40c12588fed13e6bdaab014a63bd7b495b3c033d1782c4d"), looks := true }, kinds := [], alts := [], laidByText := true, laidKinds := [.data, .sentinel, .pinned], laidTests := true, laidLooks := .later }
def FnExactAgainUptoCardSaid : Prop := Claim7.holds Tryd.pinned (.plain (OpenSpec.upto fnExactAgainSpec)) fnExactAgainUptoCard

/-- THE SECOND FORM's CARD OF 'laws.FnAlignedStays'. -/
def fnAlignedStaysUptoCard : Claim7 := { stood := { row := fnAlignedStaysUptoRow, standIns := [], harness := (true, "a04c843f67fc0f0de40c12588fed13e6bdaab014a63bd7b495b3c033d1782c4d"), looks := true }, kinds := [], alts := [], laidByText := true, laidKinds := [.data, .sentinel, .pinned], laidTests := true, laidLooks := .later }
def FnAlignedStaysUptoCardSaid : Prop := Claim7.holds Tryd.pinned (.plain (OpenSpec.upto fnAlignedStaysSpec)) fnAlignedStaysUptoCard

/-- THE SECOND FORM's CARD OF 'laws.FnExactFull'. -/
def fnExactFullUptoCard : Claim7 := { stood := { row := fnExactFullUptoRow, standIns := [], harness := (true, "a04c843f67fc0f0de40c12588fed13e6bdaab014a63bd7b495b3c033d1782c4d"), looks := true }, kinds := [], alts := [], laidByText := true, laidKinds := [.data, .sentinel, .sentinel, .pinned], laidTests := true, laidLooks := .later }
def FnExactFullUptoCardSaid : Prop := Claim7.holds Tryd.pinned (.plain (OpenSpec.upto fnExactFullSpec)) fnExactFullUptoCard

/-- THE SECOND FORM's CARD OF 'laws.FnOneLine'. -/
def fnOneLineUptoCard : Claim7 := { stood := { row := fnOneLineUptoRow, standIns := [], harness := (true, "a04c843f67fc0f0de40c12588fed13e6bdaab014a63bd7b495b3c033d1782c4d"), looks := true }, kinds := [], alts := [], laidByText := true, laidKinds := [.data, .sentinel, .pinned], laidTests := true, laidLooks := .later }
def FnOneLineUptoCardSaid : Prop := Claim7.holds Tryd.pinned (.plain (OpenSpec.upto fnOneLineSpec)) fnOneLineUptoCard

/-- THE SECOND FORM's CARD OF 'laws.FnStripped'. -/
def fnStrippedUptoCard : Claim7 := { stood := { row := fnStrippedUptoRow, standIns := [], harness := (true, "a04c843f67fc0f0de40c12588fed13e6bdaab014a63bd7b495b3c033d1782c4d"), looks := true }, kinds := [], alts := [], laidByText := true, laidKinds := [.data, .sentinel, .pinned], laidTests := true, laidLooks := .later }
def FnStrippedUptoCardSaid : Prop := Claim7.holds Tryd.pinned (.plain (OpenSpec.upto fnStrippedSpec)) fnStrippedUptoCard
end Rows
end Go.Proofs.YtaagcdlghoiolaaDoor

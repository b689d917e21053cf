/-
  DERIVED. GIVEN WITH THE SEED: THE CARDS: each row of YthcjaegnnfiboaaDoorRows.lean that lists a variable, with what it lists TIED to the program's text (the seventh form; the later family's looks); each row that meets fmt, with fmt's text TOLD by the authors' own Lean function (tested against real Go, not proved from fmt's source: count such statements apart). THE CARD IS WHAT COUNTS. Prove the row's statement (the work); the ties are given (YthcjaegnnfiboaaDoorTie.lean); close each card by the builder's one call (the guide's Derived/Test/ToyasCard.lean, 'card_holds'). Laid BY PROGRAM, IN A SANDBOX (cutbox-door.mjs). By AI agents, Wed Nov 11 2026. No macro, syntax, notation, axiom, sorry.
-/
import Derived.Test.YthcjaegnnfiboaaDoorRows
import GoSem.ClaimSeven
namespace Go.Proofs.YthcjaegnnfiboaaDoor
namespace Rows

/-- THE TIED CARD OF 'laws.FnAlignedStays'. -/
def fnAlignedStaysCard : Claim7 := { stood := { row := fnAlignedStaysRow, standIns := [], harness := (true, "18a13416a70f4520cb67ffff5ffea89454c7b34f4317e862bc0cfb62240dd6cb"), looks := true }, kinds := [], alts := [], laidByText := true, laidKinds := [.data, .sentinel, .pinned], laidTests := true, laidLooks := .later }
def FnAlignedStaysCardSaid : Prop := Claim7.holds Tryd.pinned (.plain (OpenSpec.ofChange fnAlignedStaysSpec)) fnAlignedStaysCard

/-- THE TIED CARD OF 'laws.FnAsManyLines'. -/
def fnAsManyLinesCard : Claim7 := { stood := { row := fnAsManyLinesRow, standIns := [], harness := (true, "18a13416a70f4520cb67ffff5ffea89454c7b34f4317e862bc0cfb62240dd6cb"), looks := true }, kinds := [], alts := [], laidByText := true, laidKinds := [.data, .sentinel, .pinned], laidTests := true, laidLooks := .later }
def FnAsManyLinesCardSaid : Prop := Claim7.holds Tryd.pinned (.plain (OpenSpec.ofChange fnAsManyLinesSpec)) fnAsManyLinesCard

/-- THE TIED CARD OF 'laws.FnBarsAlign'. -/
def fnBarsAlignCard : Claim7 := { stood := { row := fnBarsAlignRow, standIns := [], harness := (true, "18a13416a70f4520cb67ffff5ffea89454c7b34f4317e862bc0cfb62240dd6cb"), looks := true }, kinds := [], alts := [], laidByText := true, laidKinds := [.data, .sentinel, .pinned], laidTests := true, laidLooks := .later }
def FnBarsAlignCardSaid : Prop := Claim7.holds Tryd.pinned (.plain (OpenSpec.ofChange fnBarsAlignSpec)) fnBarsAlignCard

/-- THE TIED CARD OF 'laws.FnBarsOnly'. -/
def fnBarsOnlyCard : Claim7 := { stood := { row := fnBarsOnlyRow, standIns := [], harness := (true, "18a13416a70f4520cb67ffff5ffea89454c7b34f4317e862bc0cfb62240dd6cb"), looks := true }, kinds := [], alts := [], laidByText := true, laidKinds := [.data, .sentinel, .pinned], laidTests := true, laidLooks := .later }
def FnBarsOnlyCardSaid : Prop := Claim7.holds Tryd.pinned (.plain (OpenSpec.ofChange fnBarsOnlySpec)) fnBarsOnlyCard

/-- THE TIED CARD OF 'laws.FnBlocks'. -/
def fnBlocksCard : Claim7 := { stood := { row := fnBlocksRow, standIns := [], harness := (true, "18a13416a70f4520cb67ffff5ffea89454c7b34f4317e862bc0cfb62240dd6cb"), looks := true }, kinds := [], alts := [], laidByText := true, laidKinds := [.data, .sentinel, .pinned], laidTests := true, laidLooks := .later }
def FnBlocksCardSaid : Prop := Claim7.holds Tryd.pinned (.plain (OpenSpec.ofChange fnBlocksSpec)) fnBlocksCard

/-- THE TIED CARD OF 'laws.FnFeeds'. -/
def fnFeedsCard : Claim7 := { stood := { row := fnFeedsRow, standIns := [], harness := (true, "18a13416a70f4520cb67ffff5ffea89454c7b34f4317e862bc0cfb62240dd6cb"), looks := true }, kinds := [], alts := [], laidByText := true, laidKinds := [.data, .sentinel, .pinned], laidTests := true, laidLooks := .later }
def FnFeedsCardSaid : Prop := Claim7.holds Tryd.pinned (.plain (OpenSpec.ofChange fnFeedsSpec)) fnFeedsCard

/-- THE TIED CARD OF 'laws.FnMoreMin'. -/
def fnMoreMinCard : Claim7 := { stood := { row := fnMoreMinRow, standIns := [], harness := (true, "18a13416a70f4520cb67ffff5ffea89454c7b34f4317e862bc0cfb62240dd6cb"), looks := true }, kinds := [], alts := [], laidByText := true, laidKinds := [.data, .sentinel, .pinned], laidTests := true, laidLooks := .later }
def FnMoreMinCardSaid : Prop := Claim7.holds Tryd.pinned (.plain (OpenSpec.ofChange fnMoreMinSpec)) fnMoreMinCard

/-- THE TIED CARD OF 'laws.FnMorePad'. -/
def fnMorePadCard : Claim7 := { stood := { row := fnMorePadRow, standIns := [], harness := (true, "18a13416a70f4520cb67ffff5ffea89454c7b34f4317e862bc0cfb62240dd6cb"), looks := true }, kinds := [], alts := [], laidByText := true, laidKinds := [.data, .sentinel, .pinned], laidTests := true, laidLooks := .later }
def FnMorePadCardSaid : Prop := Claim7.holds Tryd.pinned (.plain (OpenSpec.ofChange fnMorePadSpec)) fnMorePadCard

/-- THE TIED CARD OF 'laws.FnNothingAdded'. -/
def fnNothingAddedCard : Claim7 := { stood := { row := fnNothingAddedRow, standIns := [], harness := (true, "18a13416a70f4520cb67ffff5ffea89454c7b34f4317e862bc0cfb62240dd6cb"), looks := true }, kinds := [], alts := [], laidByText := true, laidKinds := [.data, .sentinel, .pinned], laidTests := true, laidLooks := .later }
def FnNothingAddedCardSaid : Prop := Claim7.holds Tryd.pinned (.plain (OpenSpec.ofChange fnNothingAddedSpec)) fnNothingAddedCard

/-- THE TIED CARD OF 'laws.FnRightAsLong'. -/
def fnRightAsLongCard : Claim7 := { stood := { row := fnRightAsLongRow, standIns := [], harness := (true, "18a13416a70f4520cb67ffff5ffea89454c7b34f4317e862bc0cfb62240dd6cb"), looks := true }, kinds := [], alts := [], laidByText := true, laidKinds := [.data, .sentinel, .pinned], laidTests := true, laidLooks := .later }
def FnRightAsLongCardSaid : Prop := Claim7.holds Tryd.pinned (.plain (OpenSpec.ofChange fnRightAsLongSpec)) fnRightAsLongCard

/-- THE TIED CARD OF 'laws.FnSoftAsHard'. -/
def fnSoftAsHardCard : Claim7 := { stood := { row := fnSoftAsHardRow, standIns := [], harness := (true, "18a13416a70f4520cb67ffff5ffea89454c7b34f4317e862bc0cfb62240dd6cb"), looks := true }, kinds := [], alts := [], laidByText := true, laidKinds := [.data, .sentinel, .pinned], laidTests := true, laidLooks := .later }
def FnSoftAsHardCardSaid : Prop := Claim7.holds Tryd.pinned (.plain (OpenSpec.ofChange fnSoftAsHardSpec)) fnSoftAsHardCard

/-- THE TIED CARD OF 'laws.FnTabsLeft'. -/
def fnTabsLeftCard : Claim7 := { stood := { row := fnTabsLeftRow, standIns := [], harness := (true, "18a13416a70f4520cb67ffff5ffea89454c7b34f4317e862bc0cfb62240dd6cb"), looks := true }, kinds := [], alts := [], laidByText := true, laidKinds := [.data, .sentinel, .pinned], laidTests := true, laidLooks := .later }
def FnTabsLeftCardSaid : Prop := Claim7.holds Tryd.pinned (.plain (OpenSpec.ofChange fnTabsLeftSpec)) fnTabsLeftCard

/-- THE SECOND FORM's CARD OF 'laws.FnAlignedStays'. -/
def fnAlignedStaysUptoCard : Claim7 := { stood := { row := fnAlignedStaysUptoRow, standIns := [], harness := (true, "18a13416a70f4520cb67ffff5ffea89454c7b34f4317e862bc0cfb62240dd6cb"), looks := true }, kinds := [], alts := [], laidByText := true, laidKinds := [.data, .sentinel, .pinned], laidTests := true, laidLooks := .later }
def FnAlignedStaysUptoCardSaid : Prop := Claim7.holds Tryd.pinned (.plain (OpenSpec.upto fnAlignedStaysSpec)) fnAlignedStaysUptoCard

/-- THE SECOND FORM's CARD OF 'laws.FnAsManyLines'. -/
def fnAsManyLinesUptoCard : Claim7 := { stood := { row := fnAsManyLinesUptoRow, standIns := [], harness := (true, "18a13416a70f4520cb67ffff5ffea89454c7b34f4317e862bc0cfb62240dd6cb"), looks := true }, kinds := [], alts := [], laidByText := true, laidKinds := [.data, .sentinel, .pinned], laidTests := true, laidLooks := .later }
def FnAsManyLinesUptoCardSaid : Prop := Claim7.holds Tryd.pinned (.plain (OpenSpec.upto fnAsManyLinesSpec)) fnAsManyLinesUptoCard

/-- THE SECOND FORM's CARD OF 'laws.FnBarsAlign'. -/
def fnBarsAlignUptoCard : Claim7 := { stood := { row := fnBarsAlignUptoRow, standIns := [], harness := (true, "18a13416a70f4520cb67ffff5ffea89454c7b34f4317e862bc0cfb62240dd6cb"), looks := true }, kinds := [], alts := [], laidByText := true, laidKinds := [.data, .sentinel, .pinned], laidTests := true, laidLooks := .later }
def FnBarsAlignUptoCardSaid : Prop := Claim7.holds Tryd.pinned (.plain (OpenSpec.upto fnBarsAlignSpec)) fnBarsAlignUptoCard

/-- THE SECOND FORM's CARD OF 'laws.FnBarsOnly'. -/
def fnBarsOnlyUptoCard : Claim7 := { stood := { row := fnBarsOnlyUptoRow, standIns := [], harness := (true, "18a13416a70f4520cb67ffff5ffea89454c7b34f4317e862bc0cfb62240dd6cb"), looks := true }, kinds := [], alts := [], laidByText := true, laidKinds := [.data, .sentinel, .pinned], laidTests := true, laidLooks := .later }
def FnBarsOnlyUptoCardSaid : Prop := Claim7.holds Tryd.pinned (.plain (OpenSpec.upto fnBarsOnlySpec)) fnBarsOnlyUptoCard

/-- THE SECOND FORM's CARD OF 'laws.FnBlocks'. -/
def fnBlocksUptoCard : Claim7 := { stood := { row := fnBlocksUptoRow, standIns := [], harness := (true, "18a13416a70f4520cb67ffff5ffea89454c7b34f4317e862bc0cfb62240dd6cb"), looks := true }, kinds := [], alts := [], laidByText := true, laidKinds := [.data, .sentinel, .pinned], laidTests := true, laidLooks := .later }
def FnBlocksUptoCardSaid : Prop := Claim7.holds Tryd.pinned (.plain (OpenSpec.upto fnBlocksSpec)) fnBlocksUptoCard

/-- THE SECOND FORM's CARD OF 'laws.FnFeeds'. -/
def fnFeedsUptoCard : Claim7 := { stood := { row := fnFeedsUptoRow, standIns := [], harness := (true, "18a13416a70f4520cb67ffff5ffea89454c7b34f4317e862bc0cfb62240dd6cb"), looks := true }, kinds := [], alts := [], laidByText := true, laidKinds := [.data, .sentinel, .pinned], laidTests := true, laidLooks := .later }
def FnFeedsUptoCardSaid : Prop := Claim7.holds Tryd.pinned (.plain (OpenSpec.upto fnFeedsSpec)) fnFeedsUptoCard

/-- THE SECOND FORM's CARD OF 'laws.FnMoreMin'. -/
def fnMoreMinUptoCard : Claim7 := { stood := { row := fnMoreMinUptoRow, standIns := [], harness := (true, "18a13416a70f4520cb67ffff5ffea89454c7b34f4317e862bc0cfb62240dd6cb"), looks := true }, kinds := [], alts := [], laidByText := true, laidKinds := [.data, .sentinel, .pinned], laidTests := true, laidLooks := .later }
def FnMoreMinUptoCardSaid : Prop := Claim7.holds Tryd.pinned (.plain (OpenSpec.upto fnMoreMinSpec)) fnMoreMinUptoCard

/-- THE SECOND FORM's CARD OF 'laws.FnMorePad'. -/
def fnMorePadUptoCard : Claim7 := { stood := { row := fnMorePadUptoRow, standIns := [], harness := (true, "18a13416a70f4520cb67ffff5ffea89454c7b34f4317e862bc0cfb62240dd6cb"), looks := true }, kinds := [], alts := [], laidByText := true, laidKinds := [.data, .sentinel, .pinned], laidTests := true, laidLooks := .later }
def FnMorePadUptoCardSaid : Prop := Claim7.holds Tryd.pinned (.plain (OpenSpec.upto fnMorePadSpec)) fnMorePadUptoCard

/-- THE SECOND FORM's CARD OF 'laws.FnNothingAdded'. -/
def fnNothingAddedUptoCard : Claim7 := { stood := { row := fnNothingAddedUptoRow, standIns := [], harness := (true, "18a13416a70f4520cb67ffff5ffea89454c7b34f4317e862bc0cfb62240dd6cb"), looks := true }, kinds := [], alts := [], laidByText := true, laidKinds := [.data, .sentinel, .pinned], laidTests := true, laidLooks := .later }
def FnNothingAddedUptoCardSaid : Prop := Claim7.holds Tryd.pinned (.plain (OpenSpec.upto fnNothingAddedSpec)) fnNothingAddedUptoCard

/-- THE SECOND FORM's CARD OF 'laws.FnRightAsLong'. -/
def fnRightAsLongUptoCard : Claim7 := { stood := { row := fnRightAsLongUptoRow, standIns := [], harness := (true, "18a13416a70f4520cb67ffff5ffea89454c7b34f4317e862bc0cfb62240dd6cb"), looks := true }, kinds := [], alts := [], laidByText := true, laidKinds := [.data, .sentinel, .pinned], laidTests := true, laidLooks := .later }
def FnRightAsLongUptoCardSaid : Prop := Claim7.holds Tryd.pinned (.plain (OpenSpec.upto fnRightAsLongSpec)) fnRightAsLongUptoCard

/-- THE SECOND FORM's CARD OF 'laws.FnSoftAsHard'. -/
def fnSoftAsHardUptoCard : Claim7 := { stood := { row := fnSoftAsHardUptoRow, standIns := [], harness := (true, "18a13416a70f4520cb67ffff5ffea89454c7b34f4317e862bc0cfb62240dd6cb"), looks := true }, kinds := [], alts := [], laidByText := true, laidKinds := [.data, .sentinel, .pinned], laidTests := true, laidLooks := .later }
def FnSoftAsHardUptoCardSaid : Prop := Claim7.holds Tryd.pinned (.plain (OpenSpec.upto fnSoftAsHardSpec)) fnSoftAsHardUptoCard

/-- THE SECOND FORM's CARD OF 'laws.FnTabsLeft'. -/
def fnTabsLeftUptoCard : Claim7 := { stood := { row := fnTabsLeftUptoRow, standIns := [], harness := (true, "18a13416a70f4520cb67ffff5ffea89454c7b34f4317e862bc0cfb62240dd6cb"), looks := true }, kinds := [], alts := [], laidByText := true, laidKinds := [.data, .sentinel, .pinned], laidTests := true, laidLooks := .later }
def FnTabsLeftUptoCardSaid : Prop := Claim7.holds Tryd.pinned (.plain (OpenSpec.upto fnTabsLeftSpec)) fnTabsLeftUptoCard
end Rows
end Go.Proofs.YthcjaegnnfiboaaDoor

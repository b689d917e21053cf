/-
  DERIVED. GIVEN WITH THE SEED: THE CARDS: each row of YtinkhkhacaehkaaDoorRows.lean that lists a variable, with what it lists TIED to the program's text (the seventh form; the later family's looks); each row that meets fmt, with fmt's text TOLD by the authors' own Lean function (tested against real Go, not proved from fmt's source: count such statements apart). THE CARD IS WHAT COUNTS. Prove the row's statement (the work); the ties are given (YtinkhkhacaehkaaDoorTie.lean); close each card by the builder's one call (the guide's Derived/Test/ToyasCard.lean, 'card_holds'). Laid BY PROGRAM, IN A SANDBOX (cutbox-door.mjs). By AI agents, Wed Nov 11 2026. No macro, syntax, notation, axiom, sorry.
-/
import Derived.Test.YtinkhkhacaehkaaDoorRows
import GoSem.ClaimSeven
namespace Go.Proofs.YtinkhkhacaehkaaDoor
namespace Rows

/-- THE TIED CARD OF 'laws.FnByBytes'. -/
def fnByBytesCard : Claim7 := { stood := { row := fnByBytesRow, standIns := [], harness := (true, "f0ef19ff7e7a8b38bccf7152c414d7b0208463118fa1dd7c18d5f31fcaefc9df"), looks := true }, kinds := [], alts := [], laidByText := true, laidKinds := [.data, .sentinel, .pinned], laidTests := true, laidLooks := .later }
def FnByBytesCardSaid : Prop := Claim7.holds Tryd.pinned (.plain (OpenSpec.ofChange fnByBytesSpec)) fnByBytesCard

/-- THE TIED CARD OF 'laws.FnDiscardHard'. -/
def fnDiscardHardCard : Claim7 := { stood := { row := fnDiscardHardRow, standIns := [], harness := (true, "f0ef19ff7e7a8b38bccf7152c414d7b0208463118fa1dd7c18d5f31fcaefc9df"), looks := true }, kinds := [], alts := [], laidByText := true, laidKinds := [.data, .sentinel, .pinned], laidTests := true, laidLooks := .later }
def FnDiscardHardCardSaid : Prop := Claim7.holds Tryd.pinned (.plain (OpenSpec.ofChange fnDiscardHardSpec)) fnDiscardHardCard

/-- THE TIED CARD OF 'laws.FnExactSpaces'. -/
def fnExactSpacesCard : Claim7 := { stood := { row := fnExactSpacesRow, standIns := [], harness := (true, "f0ef19ff7e7a8b38bccf7152c414d7b0208463118fa1dd7c18d5f31fcaefc9df"), looks := true }, kinds := [], alts := [], laidByText := true, laidKinds := [.data, .sentinel, .pinned], laidTests := true, laidLooks := .later }
def FnExactSpacesCardSaid : Prop := Claim7.holds Tryd.pinned (.plain (OpenSpec.ofChange fnExactSpacesSpec)) fnExactSpacesCard

/-- THE TIED CARD OF 'laws.FnExactTame'. -/
def fnExactTameCard : Claim7 := { stood := { row := fnExactTameRow, standIns := [], harness := (true, "f0ef19ff7e7a8b38bccf7152c414d7b0208463118fa1dd7c18d5f31fcaefc9df"), looks := true }, kinds := [], alts := [], laidByText := true, laidKinds := [.data, .sentinel, .pinned], laidTests := true, laidLooks := .later }
def FnExactTameCardSaid : Prop := Claim7.holds Tryd.pinned (.plain (OpenSpec.ofChange fnExactTameSpec)) fnExactTameCard

/-- THE TIED CARD OF 'laws.FnExactWrites'. -/
def fnExactWritesCard : Claim7 := { stood := { row := fnExactWritesRow, standIns := [], harness := (true, "f0ef19ff7e7a8b38bccf7152c414d7b0208463118fa1dd7c18d5f31fcaefc9df"), looks := true }, kinds := [], alts := [], laidByText := true, laidKinds := [.data, .sentinel, .pinned], laidTests := true, laidLooks := .later }
def FnExactWritesCardSaid : Prop := Claim7.holds Tryd.pinned (.plain (OpenSpec.ofChange fnExactWritesSpec)) fnExactWritesCard

/-- THE TIED CARD OF 'laws.FnIndent'. -/
def fnIndentCard : Claim7 := { stood := { row := fnIndentRow, standIns := [], harness := (true, "f0ef19ff7e7a8b38bccf7152c414d7b0208463118fa1dd7c18d5f31fcaefc9df"), looks := true }, kinds := [], alts := [], laidByText := true, laidKinds := [.data, .sentinel, .pinned], laidTests := true, laidLooks := .later }
def FnIndentCardSaid : Prop := Claim7.holds Tryd.pinned (.plain (OpenSpec.ofChange fnIndentSpec)) fnIndentCard

/-- THE TIED CARD OF 'laws.FnNoEscapes'. -/
def fnNoEscapesCard : Claim7 := { stood := { row := fnNoEscapesRow, standIns := [], harness := (true, "f0ef19ff7e7a8b38bccf7152c414d7b0208463118fa1dd7c18d5f31fcaefc9df"), looks := true }, kinds := [], alts := [], laidByText := true, laidKinds := [.data, .sentinel, .pinned], laidTests := true, laidLooks := .later }
def FnNoEscapesCardSaid : Prop := Claim7.holds Tryd.pinned (.plain (OpenSpec.ofChange fnNoEscapesSpec)) fnNoEscapesCard

/-- THE TIED CARD OF 'laws.FnNoTags'. -/
def fnNoTagsCard : Claim7 := { stood := { row := fnNoTagsRow, standIns := [], harness := (true, "f0ef19ff7e7a8b38bccf7152c414d7b0208463118fa1dd7c18d5f31fcaefc9df"), looks := true }, kinds := [], alts := [], laidByText := true, laidKinds := [.data, .sentinel, .pinned], laidTests := true, laidLooks := .later }
def FnNoTagsCardSaid : Prop := Claim7.holds Tryd.pinned (.plain (OpenSpec.ofChange fnNoTagsSpec)) fnNoTagsCard

/-- THE TIED CARD OF 'laws.FnNothingLost'. -/
def fnNothingLostCard : Claim7 := { stood := { row := fnNothingLostRow, standIns := [], harness := (true, "f0ef19ff7e7a8b38bccf7152c414d7b0208463118fa1dd7c18d5f31fcaefc9df"), looks := true }, kinds := [], alts := [], laidByText := true, laidKinds := [.data, .sentinel, .pinned], laidTests := true, laidLooks := .later }
def FnNothingLostCardSaid : Prop := Claim7.holds Tryd.pinned (.plain (OpenSpec.ofChange fnNothingLostSpec)) fnNothingLostCard

/-- THE TIED CARD OF 'laws.FnSoftAsHard'. -/
def fnSoftAsHardCard : Claim7 := { stood := { row := fnSoftAsHardRow, standIns := [], harness := (true, "f0ef19ff7e7a8b38bccf7152c414d7b0208463118fa1dd7c18d5f31fcaefc9df"), looks := true }, kinds := [], alts := [], laidByText := true, laidKinds := [.data, .sentinel, .pinned], laidTests := true, laidLooks := .later }
def FnSoftAsHardCardSaid : Prop := Claim7.holds Tryd.pinned (.plain (OpenSpec.ofChange fnSoftAsHardSpec)) fnSoftAsHardCard

/-- THE TIED CARD OF 'laws.FnTabsLeft'. -/
def fnTabsLeftCard : Claim7 := { stood := { row := fnTabsLeftRow, standIns := [], harness := (true, "f0ef19ff7e7a8b38bccf7152c414d7b0208463118fa1dd7c18d5f31fcaefc9df"), looks := true }, kinds := [], alts := [], laidByText := true, laidKinds := [.data, .sentinel, .pinned], laidTests := true, laidLooks := .later }
def FnTabsLeftCardSaid : Prop := Claim7.holds Tryd.pinned (.plain (OpenSpec.ofChange fnTabsLeftSpec)) fnTabsLeftCard

/-- THE TIED CARD OF 'laws.FnTabsLost'. -/
def fnTabsLostCard : Claim7 := { stood := { row := fnTabsLostRow, standIns := [], harness := (true, "f0ef19ff7e7a8b38bccf7152c414d7b0208463118fa1dd7c18d5f31fcaefc9df"), looks := true }, kinds := [], alts := [], laidByText := true, laidKinds := [.data, .sentinel, .pinned], laidTests := true, laidLooks := .later }
def FnTabsLostCardSaid : Prop := Claim7.holds Tryd.pinned (.plain (OpenSpec.ofChange fnTabsLostSpec)) fnTabsLostCard

/-- THE SECOND FORM's CARD OF 'laws.FnByBytes'. -/
def fnByBytesUptoCard : Claim7 := { stood := { row := fnByBytesUptoRow, standIns := [], harness := (true, "f0ef19ff7e7a8b38bccf7152c414d7b0208463118fa1dd7c18d5f31fcaefc9df"), looks := true }, kinds := [], alts := [], laidByText := true, laidKinds := [.data, .sentinel, .pinned], laidTests := true, laidLooks := .later }
def FnByBytesUptoCardSaid : Prop := Claim7.holds Tryd.pinned (.plain (OpenSpec.upto fnByBytesSpec)) fnByBytesUptoCard

/-- THE SECOND FORM's CARD OF 'laws.FnDiscardHard'. -/
def fnDiscardHardUptoCard : Claim7 := { stood := { row := fnDiscardHardUptoRow, standIns := [], harness := (true, "f0ef19ff7e7a8b38bccf7152c414d7b0208463118fa1dd7c18d5f31fcaefc9df"), looks := true }, kinds := [], alts := [], laidByText := true, laidKinds := [.data, .sentinel, .pinned], laidTests := true, laidLooks := .later }
def FnDiscardHardUptoCardSaid : Prop := Claim7.holds Tryd.pinned (.plain (OpenSpec.upto fnDiscardHardSpec)) fnDiscardHardUptoCard

/-- THE SECOND FORM's CARD OF 'laws.FnExactSpaces'. -/
def fnExactSpacesUptoCard : Claim7 := { stood := { row := fnExactSpacesUptoRow, standIns := [], harness := (true, "f0ef19ff7e7a8b38bccf7152c414d7b0208463118fa1dd7c18d5f31fcaefc9df"), looks := true }, kinds := [], alts := [], laidByText := true, laidKinds := [.data, .sentinel, .pinned], laidTests := true, laidLooks := .later }
def FnExactSpacesUptoCardSaid : Prop := Claim7.holds Tryd.pinned (.plain (OpenSpec.upto fnExactSpacesSpec)) fnExactSpacesUptoCard

/-- THE SECOND FORM's CARD OF 'laws.FnExactTame'. -/
def fnExactTameUptoCard : Claim7 := { stood := { row := fnExactTameUptoRow, standIns := [], harness := (true, "f0ef19ff7e7a8b38bccf7152c414d7b0208463118fa1dd7c18d5f31fcaefc9df"), looks := true }, kinds := [], alts := [], laidByText := true, laidKinds := [.data, .sentinel, .pinned], laidTests := true, laidLooks := .later }
def FnExactTameUptoCardSaid : Prop := Claim7.holds Tryd.pinned (.plain (OpenSpec.upto fnExactTameSpec)) fnExactTameUptoCard

/-- THE SECOND FORM's CARD OF 'laws.FnExactWrites'. -/
def fnExactWritesUptoCard : Claim7 := { stood := { row := fnExactWritesUptoRow, standIns := [], harness := (true, "f0ef19ff7e7a8b38bccf7152c414d7b0208463118fa1dd7c18d5f31fcaefc9df"), looks := true }, kinds := [], alts := [], laidByText := true, laidKinds := [.data, .sentinel, .pinned], laidTests := true, laidLooks := .later }
def FnExactWritesUptoCardSaid : Prop := Claim7.holds Tryd.pinned (.plain (OpenSpec.upto fnExactWritesSpec)) fnExactWritesUptoCard

/-- THE SECOND FORM's CARD OF 'laws.FnIndent'. -/
def fnIndentUptoCard : Claim7 := { stood := { row := fnIndentUptoRow, standIns := [], harness := (true, "f0ef19ff7e7a8b38bccf7152c414d7b0208463118fa1dd7c18d5f31fcaefc9df"), looks := true }, kinds := [], alts := [], laidByText := true, laidKinds := [.data, .sentinel, .pinned], laidTests := true, laidLooks := .later }
def FnIndentUptoCardSaid : Prop := Claim7.holds Tryd.pinned (.plain (OpenSpec.upto fnIndentSpec)) fnIndentUptoCard

/-- THE SECOND FORM's CARD OF 'laws.FnNoEscapes'. -/
def fnNoEscapesUptoCard : Claim7 := { stood := { row := fnNoEscapesUptoRow, standIns := [], harness := (true, "f0ef19ff7e7a8b38bccf7152c414d7b0208463118fa1dd7c18d5f31fcaefc9df"), looks := true }, kinds := [], alts := [], laidByText := true, laidKinds := [.data, .sentinel, .pinned], laidTests := true, laidLooks := .later }
def FnNoEscapesUptoCardSaid : Prop := Claim7.holds Tryd.pinned (.plain (OpenSpec.upto fnNoEscapesSpec)) fnNoEscapesUptoCard

/-- THE SECOND FORM's CARD OF 'laws.FnNoTags'. -/
def fnNoTagsUptoCard : Claim7 := { stood := { row := fnNoTagsUptoRow, standIns := [], harness := (true, "f0ef19ff7e7a8b38bccf7152c414d7b0208463118fa1dd7c18d5f31fcaefc9df"), looks := true }, kinds := [], alts := [], laidByText := true, laidKinds := [.data, .sentinel, .pinned], laidTests := true, laidLooks := .later }
def FnNoTagsUptoCardSaid : Prop := Claim7.holds Tryd.pinned (.plain (OpenSpec.upto fnNoTagsSpec)) fnNoTagsUptoCard

/-- THE SECOND FORM's CARD OF 'laws.FnNothingLost'. -/
def fnNothingLostUptoCard : Claim7 := { stood := { row := fnNothingLostUptoRow, standIns := [], harness := (true, "f0ef19ff7e7a8b38bccf7152c414d7b0208463118fa1dd7c18d5f31fcaefc9df"), looks := true }, kinds := [], alts := [], laidByText := true, laidKinds := [.data, .sentinel, .pinned], laidTests := true, laidLooks := .later }
def FnNothingLostUptoCardSaid : Prop := Claim7.holds Tryd.pinned (.plain (OpenSpec.upto fnNothingLostSpec)) fnNothingLostUptoCard

/-- THE SECOND FORM's CARD OF 'laws.FnSoftAsHard'. -/
def fnSoftAsHardUptoCard : Claim7 := { stood := { row := fnSoftAsHardUptoRow, standIns := [], harness := (true, "f0ef19ff7e7a8b38bccf7152c414d7b0208463118fa1dd7c18d5f31fcaefc9df"), looks := true }, kinds := [], alts := [], laidByText := true, laidKinds := [.data, .sentinel, .pinned], laidTests := true, laidLooks := .later }
def FnSoftAsHardUptoCardSaid : Prop := Claim7.holds Tryd.pinned (.plain (OpenSpec.upto fnSoftAsHardSpec)) fnSoftAsHardUptoCard

/-- THE SECOND FORM's CARD OF 'laws.FnTabsLeft'. -/
def fnTabsLeftUptoCard : Claim7 := { stood := { row := fnTabsLeftUptoRow, standIns := [], harness := (true, "f0ef19ff7e7a8b38bccf7152c414d7b0208463118fa1dd7c18d5f31fcaefc9df"), looks := true }, kinds := [], alts := [], laidByText := true, laidKinds := [.data, .sentinel, .pinned], laidTests := true, laidLooks := .later }
def FnTabsLeftUptoCardSaid : Prop := Claim7.holds Tryd.pinned (.plain (OpenSpec.upto fnTabsLeftSpec)) fnTabsLeftUptoCard

/-- THE SECOND FORM's CARD OF 'laws.FnTabsLost'. -/
def fnTabsLostUptoCard : Claim7 := { stood := { row := fnTabsLostUptoRow, standIns := [], harness := (true, "f0ef19ff7e7a8b38bccf7152c414d7b0208463118fa1dd7c18d5f31fcaefc9df"), looks := true }, kinds := [], alts := [], laidByText := true, laidKinds := [.data, .sentinel, .pinned], laidTests := true, laidLooks := .later }
def FnTabsLostUptoCardSaid : Prop := Claim7.holds Tryd.pinned (.plain (OpenSpec.upto fnTabsLostSpec)) fnTabsLostUptoCard
end Rows
end Go.Proofs.YtinkhkhacaehkaaDoor

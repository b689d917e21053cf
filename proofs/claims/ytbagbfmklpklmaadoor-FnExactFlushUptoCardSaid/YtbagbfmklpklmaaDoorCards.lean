/-
  DERIVED. GIVEN WITH THE SEED: THE CARDS: each row of YtbagbfmklpklmaaDoorRows.lean that lists a variable, with what it lists TIED to the program's text (the seventh form; the later family's looks); each row that meets fmt, with fmt's text TOLD by the authors' own Lean function (tested against real Go, not proved from fmt's source: count such statements apart). THE CARD IS WHAT COUNTS. Prove the row's statement (the work); the ties are given (YtbagbfmklpklmaaDoorTie.lean); close each card by the builder's one call (the guide's Derived/Test/ToyasCard.lean, 'card_holds'). Laid BY PROGRAM, IN A SANDBOX (cutbox-door.mjs). By AI agents, Wed Nov 11 2026. No macro, syntax, notation, axiom, sorry.
-/
import Derived.Test.YtbagbfmklpklmaaDoorRows
import GoSem.ClaimSeven
namespace Go.Proofs.YtbagbfmklpklmaaDoor
namespace Rows

/-- THE TIED CARD OF 'laws.FnCuts'. -/
def fnCutsCard : Claim7 := { stood := { row := fnCutsRow, standIns := [], harness := (true, "309addd918a2f1ff7e9db50038fde8a3276ee64193c662bf77bbd452a5850690"), looks := true }, kinds := [], alts := [], laidByText := true, laidKinds := [.sentinel], laidTests := true, laidLooks := .later }
def FnCutsCardSaid : Prop := Claim7.holds Tryd.pinned (.plain (OpenSpec.ofChange fnCutsSpec)) fnCutsCard

/-- THE TIED CARD OF 'laws.FnEscapedAll'. -/
def fnEscapedAllCard : Claim7 := { stood := { row := fnEscapedAllRow, standIns := [], harness := (true, "309addd918a2f1ff7e9db50038fde8a3276ee64193c662bf77bbd452a5850690"), looks := true }, kinds := [], alts := [], laidByText := true, laidKinds := [.sentinel], laidTests := true, laidLooks := .later }
def FnEscapedAllCardSaid : Prop := Claim7.holds Tryd.pinned (.plain (OpenSpec.ofChange fnEscapedAllSpec)) fnEscapedAllCard

/-- THE TIED CARD OF 'laws.FnExactAll'. -/
def fnExactAllCard : Claim7 := { stood := { row := fnExactAllRow, standIns := [], harness := (true, "309addd918a2f1ff7e9db50038fde8a3276ee64193c662bf77bbd452a5850690"), looks := true }, kinds := [], alts := [], laidByText := true, laidKinds := [.sentinel], laidTests := true, laidLooks := .later }
def FnExactAllCardSaid : Prop := Claim7.holds Tryd.pinned (.plain (OpenSpec.ofChange fnExactAllSpec)) fnExactAllCard

/-- THE TIED CARD OF 'laws.FnExactFlush'. -/
def fnExactFlushCard : Claim7 := { stood := { row := fnExactFlushRow, standIns := [], harness := (true, "309addd918a2f1ff7e9db50038fde8a3276ee64193c662bf77bbd452a5850690"), looks := true }, kinds := [], alts := [], laidByText := true, laidKinds := [.sentinel], laidTests := true, laidLooks := .later }
def FnExactFlushCardSaid : Prop := Claim7.holds Tryd.pinned (.plain (OpenSpec.ofChange fnExactFlushSpec)) fnExactFlushCard

/-- THE TIED CARD OF 'laws.FnExactTabs'. -/
def fnExactTabsCard : Claim7 := { stood := { row := fnExactTabsRow, standIns := [], harness := (true, "309addd918a2f1ff7e9db50038fde8a3276ee64193c662bf77bbd452a5850690"), looks := true }, kinds := [], alts := [], laidByText := true, laidKinds := [.sentinel], laidTests := true, laidLooks := .later }
def FnExactTabsCardSaid : Prop := Claim7.holds Tryd.pinned (.plain (OpenSpec.ofChange fnExactTabsSpec)) fnExactTabsCard

/-- THE TIED CARD OF 'laws.FnNoTabWidth'. -/
def fnNoTabWidthCard : Claim7 := { stood := { row := fnNoTabWidthRow, standIns := [], harness := (true, "309addd918a2f1ff7e9db50038fde8a3276ee64193c662bf77bbd452a5850690"), looks := true }, kinds := [], alts := [], laidByText := true, laidKinds := [.sentinel], laidTests := true, laidLooks := .later }
def FnNoTabWidthCardSaid : Prop := Claim7.holds Tryd.pinned (.plain (OpenSpec.ofChange fnNoTabWidthSpec)) fnNoTabWidthCard

/-- THE TIED CARD OF 'laws.FnTagAll'. -/
def fnTagAllCard : Claim7 := { stood := { row := fnTagAllRow, standIns := [], harness := (true, "309addd918a2f1ff7e9db50038fde8a3276ee64193c662bf77bbd452a5850690"), looks := true }, kinds := [], alts := [], laidByText := true, laidKinds := [.sentinel], laidTests := true, laidLooks := .later }
def FnTagAllCardSaid : Prop := Claim7.holds Tryd.pinned (.plain (OpenSpec.ofChange fnTagAllSpec)) fnTagAllCard

/-- THE TIED CARD OF 'laws.FnExactCounts'. -/
def fnExactCountsCard : Claim7 := { stood := { row := fnExactCountsRow, standIns := [], harness := (true, "309addd918a2f1ff7e9db50038fde8a3276ee64193c662bf77bbd452a5850690"), looks := true }, kinds := [], alts := [], laidByText := true, laidKinds := [.sentinel], laidTests := true, laidLooks := .later }
def FnExactCountsCardSaid : Prop := Claim7.holds Tryd.pinned (.plain (OpenSpec.ofChange fnExactCountsSpec)) fnExactCountsCard

/-- THE SECOND FORM's CARD OF 'laws.FnCuts'. -/
def fnCutsUptoCard : Claim7 := { stood := { row := fnCutsUptoRow, standIns := [], harness := (true, "309addd918a2f1ff7e9db50038fde8a3276ee64193c662bf77bbd452a5850690"), looks := true }, kinds := [], alts := [], laidByText := true, laidKinds := [.sentinel], laidTests := true, laidLooks := .later }
def FnCutsUptoCardSaid : Prop := Claim7.holds Tryd.pinned (.plain (OpenSpec.upto fnCutsSpec)) fnCutsUptoCard

/-- THE SECOND FORM's CARD OF 'laws.FnEscapedAll'. -/
def fnEscapedAllUptoCard : Claim7 := { stood := { row := fnEscapedAllUptoRow, standIns := [], harness := (true, "309addd918a2f1ff7e9db50038fde8a3276ee64193c662bf77bbd452a5850690"), looks := true }, kinds := [], alts := [], laidByText := true, laidKinds := [.sentinel], laidTests := true, laidLooks := .later }
def FnEscapedAllUptoCardSaid : Prop := Claim7.holds Tryd.pinned (.plain (OpenSpec.upto fnEscapedAllSpec)) fnEscapedAllUptoCard

/-- THE SECOND FORM's CARD OF 'laws.FnExactAll'. -/
def fnExactAllUptoCard : Claim7 := { stood := { row := fnExactAllUptoRow, standIns := [], harness := (true, "309addd918a2f1ff7e9db50038fde8a3276ee64193c662bf77bbd452a5850690"), looks := true }, kinds := [], alts := [], laidByText := true, laidKinds := [.sentinel], laidTests := true, laidLooks := .later }
def FnExactAllUptoCardSaid : Prop := Claim7.holds Tryd.pinned (.plain (OpenSpec.upto fnExactAllSpec)) fnExactAllUptoCard

/-- THE SECOND FORM's CARD OF 'laws.FnExactFlush'. -/
def fnExactFlushUptoCard : Claim7 := { stood := { row := fnExactFlushUptoRow, standIns := [], harness := (true, "309addd918a2f1ff7e9db50038fde8a3276ee64193c662bf77bbd452a5850690"), looks := true }, kinds := [], alts := [], laidByText := true, laidKinds := [.sentinel], laidTests := true, laidLooks := .later }
def FnExactFlushUptoCardSaid : Prop := Claim7.holds Tryd.pinned (.plain (OpenSpec.upto fnExactFlushSpec)) fnExactFlushUptoCard

/-- THE SECOND FORM's CARD OF 'laws.FnExactTabs'. -/
def fnExactTabsUptoCard : Claim7 := { stood := { row := fnExactTabsUptoRow, standIns := [], harness := (true, "309addd918a2f1ff7e9db50038fde8a3276ee64193c662bf77bbd452a5850690"), looks := true }, kinds := [], alts := [], laidByText := true, laidKinds := [.sentinel], laidTests := true, laidLooks := .later }
def FnExactTabsUptoCardSaid : Prop := Claim7.holds Tryd.pinned (.plain (OpenSpec.upto fnExactTabsSpec)) fnExactTabsUptoCard

/-- THE SECOND FORM's CARD OF 'laws.FnNoTabWidth'. -/
def fnNoTabWidthUptoCard : Claim7 := { stood := { row := fnNoTabWidthUptoRow, standIns := [], harness := (true, "309addd918a2f1ff7e9db50038fde8a3276ee64193c662bf77bbd452a5850690"), looks := true }, kinds := [], alts := [], laidByText := true, laidKinds := [.sentinel], laidTests := true, laidLooks := .later }
def FnNoTabWidthUptoCardSaid : Prop := Claim7.holds Tryd.pinned (.plain (OpenSpec.upto fnNoTabWidthSpec)) fnNoTabWidthUptoCard

/-- THE SECOND FORM's CARD OF 'laws.FnTagAll'. -/
def fnTagAllUptoCard : Claim7 := { stood := { row := fnTagAllUptoRow, standIns := [], harness := (true, "309addd918a2f1ff7e9db50038fde8a3276ee64193c662bf77bbd452a5850690"), looks := true }, kinds := [], alts := [], laidByText := true, laidKinds := [.sentinel], laidTests := true, laidLooks := .later }
def FnTagAllUptoCardSaid : Prop := Claim7.holds Tryd.pinned (.plain (OpenSpec.upto fnTagAllSpec)) fnTagAllUptoCard

/-- THE SECOND FORM's CARD OF 'laws.FnExactCounts'. -/
def fnExactCountsUptoCard : Claim7 := { stood := { row := fnExactCountsUptoRow, standIns := [], harness := (true, "309addd918a2f1ff7e9db50038fde8a3276ee64193c662bf77bbd452a5850690"), looks := true }, kinds := [], alts := [], laidByText := true, laidKinds := [.sentinel], laidTests := true, laidLooks := .later }
def FnExactCountsUptoCardSaid : Prop := Claim7.holds Tryd.pinned (.plain (OpenSpec.upto fnExactCountsSpec)) fnExactCountsUptoCard
end Rows
end Go.Proofs.YtbagbfmklpklmaaDoor

/-
  NARROWER THAN 'FOR EVERY INPUT', by the rows' own cells (each row's printed sentence says how): FnCuts: laid · FnEscapedAll: laid · FnExactAll: laid · FnExactFlush: laid · FnExactTabs: laid · FnNoTabWidth: laid · FnTagAll: laid · FnExactCounts: laid.
  DERIVED. THE GIVEN ROWS OF THIS SEAT. 8 by the template 'for every input the law returns true; each argument reads behind the call as it read before'; 0 by the template 'total and deterministic' (their statements: YtbagbfmklpklmaaDoorTotals.lean).
  GIVEN WITH THE SEED: the statements are not yours to turn. If you find one false, say at which input.
  Laid BY PROGRAM, IN A SANDBOX (cutbox-rows.mjs): the forced cells as the released guide's own fill.sh prints them over the translation 6db676cca3ecd851… (all of the seat's roots in one cut). By AI agents, Wed Nov 11 2026. No macro, syntax, notation, axiom, sorry.
-/
import Derived.Test.YtbagbfmklpklmaaDoorChecked
import GoSem.Claim
import GoSem.ClaimJoined
import GoSem.ClaimMapViews
import Derived.JoinedTies
import Derived.KernelRfl
namespace Go.Proofs.YtbagbfmklpklmaaDoor
/- THE CELL 'sum', in the pinned program and in every row, IS THE sha256 OF THE DUMP (.gsa) THAT YtbagbfmklpklmaaDoorProg.lean LOADS. Nothing in Lean hashes anything: it is a label: what it is worth is what the hold of that sum in a sandbox is worth. -/
noncomputable def Tryd.pinned : Pinned := { name := "ytbagbfmklpklmaadoor", sum := "6db676cca3ecd851aaeb7b2b81179f919509a2c29007a5a2f92fba60aa262796", checked := Tryd.checked }
namespace Rows
def none {H : Type} : Left H := { results := [], args := [] }

/- WHAT THE LISTED PACKAGE-LEVEL VARIABLES READ AS WHEN THE CALL BEGINS. Each datum BY PROGRAM (the guide's laid-datum.mjs) off the statement by which the dump's own 'gosem.cut.vars' lays the variable. In a bare row this is a premise. The card (YtbagbfmklpklmaaDoorCards.lean) ties it to the program's text. -/
def laid_io_ErrShortWrite {H : Type} : DataW H := .iface "*errors.errorString" (.ptr (.agg [.lit (.string [115, 104, 111, 114, 116, 32, 119, 114, 105, 116, 101])]))

/-- 'laws.FnCuts': WHATEVER THE INPUT: true; the input reads as it did. -/
def fnCutsSpec : ChangeSpec := { name := "fnCuts", fn := fun _ => fun
  | [d1, d2] => { results := [.lit (.bool true)], args := [d1, d2] }
  | _ => none }
def fnCutsRow : OpenClaim := { program := "ytbagbfmklpklmaadoor", sum := "6db676cca3ecd851aaeb7b2b81179f919509a2c29007a5a2f92fba60aa262796", func := "loop.example/pub-tabcolumns/laws.FnCuts", spec := "fnCuts", unfollowed := true, recurses := true, named := ["io.ErrShortWrite"], apart := false, laid := [("io.ErrShortWrite", laid_io_ErrShortWrite)] }
def FnCutsSaid : Prop := fnCutsRow.holds Tryd.pinned (OpenSpec.ofChange fnCutsSpec)

/-- ITS FALSE NEIGHBOUR: 'it returns false'. Refute it at one input. -/
def fnCutsWrong : ChangeSpec := { name := "fnCuts", fn := fun _ => fun
  | [d1, d2] => { results := [.lit (.bool false)], args := [d1, d2] }
  | _ => none }
def FnCutsWrongFalsely : Prop := fnCutsRow.holds Tryd.pinned (OpenSpec.ofChange fnCutsWrong)

/-- 'laws.FnEscapedAll': WHATEVER THE INPUT: true; the input reads as it did. -/
def fnEscapedAllSpec : ChangeSpec := { name := "fnEscapedAll", fn := fun _ => fun
  | [d1, d2] => { results := [.lit (.bool true)], args := [d1, d2] }
  | _ => none }
def fnEscapedAllRow : OpenClaim := { program := "ytbagbfmklpklmaadoor", sum := "6db676cca3ecd851aaeb7b2b81179f919509a2c29007a5a2f92fba60aa262796", func := "loop.example/pub-tabcolumns/laws.FnEscapedAll", spec := "fnEscapedAll", unfollowed := true, recurses := true, named := ["io.ErrShortWrite"], apart := false, laid := [("io.ErrShortWrite", laid_io_ErrShortWrite)] }
def FnEscapedAllSaid : Prop := fnEscapedAllRow.holds Tryd.pinned (OpenSpec.ofChange fnEscapedAllSpec)

/-- ITS FALSE NEIGHBOUR: 'it returns false'. Refute it at one input. -/
def fnEscapedAllWrong : ChangeSpec := { name := "fnEscapedAll", fn := fun _ => fun
  | [d1, d2] => { results := [.lit (.bool false)], args := [d1, d2] }
  | _ => none }
def FnEscapedAllWrongFalsely : Prop := fnEscapedAllRow.holds Tryd.pinned (OpenSpec.ofChange fnEscapedAllWrong)

/-- 'laws.FnExactAll': WHATEVER THE INPUT: true; the input reads as it did. -/
def fnExactAllSpec : ChangeSpec := { name := "fnExactAll", fn := fun _ => fun
  | [d1, d2] => { results := [.lit (.bool true)], args := [d1, d2] }
  | _ => none }
def fnExactAllRow : OpenClaim := { program := "ytbagbfmklpklmaadoor", sum := "6db676cca3ecd851aaeb7b2b81179f919509a2c29007a5a2f92fba60aa262796", func := "loop.example/pub-tabcolumns/laws.FnExactAll", spec := "fnExactAll", unfollowed := true, recurses := true, named := ["io.ErrShortWrite"], apart := false, laid := [("io.ErrShortWrite", laid_io_ErrShortWrite)] }
def FnExactAllSaid : Prop := fnExactAllRow.holds Tryd.pinned (OpenSpec.ofChange fnExactAllSpec)

/-- ITS FALSE NEIGHBOUR: 'it returns false'. Refute it at one input. -/
def fnExactAllWrong : ChangeSpec := { name := "fnExactAll", fn := fun _ => fun
  | [d1, d2] => { results := [.lit (.bool false)], args := [d1, d2] }
  | _ => none }
def FnExactAllWrongFalsely : Prop := fnExactAllRow.holds Tryd.pinned (OpenSpec.ofChange fnExactAllWrong)

/-- 'laws.FnExactFlush': WHATEVER THE INPUT: true; the input reads as it did. -/
def fnExactFlushSpec : ChangeSpec := { name := "fnExactFlush", fn := fun _ => fun
  | [d1, d2] => { results := [.lit (.bool true)], args := [d1, d2] }
  | _ => none }
def fnExactFlushRow : OpenClaim := { program := "ytbagbfmklpklmaadoor", sum := "6db676cca3ecd851aaeb7b2b81179f919509a2c29007a5a2f92fba60aa262796", func := "loop.example/pub-tabcolumns/laws.FnExactFlush", spec := "fnExactFlush", unfollowed := true, recurses := true, named := ["io.ErrShortWrite"], apart := false, laid := [("io.ErrShortWrite", laid_io_ErrShortWrite)] }
def FnExactFlushSaid : Prop := fnExactFlushRow.holds Tryd.pinned (OpenSpec.ofChange fnExactFlushSpec)

/-- ITS FALSE NEIGHBOUR: 'it returns false'. Refute it at one input. -/
def fnExactFlushWrong : ChangeSpec := { name := "fnExactFlush", fn := fun _ => fun
  | [d1, d2] => { results := [.lit (.bool false)], args := [d1, d2] }
  | _ => none }
def FnExactFlushWrongFalsely : Prop := fnExactFlushRow.holds Tryd.pinned (OpenSpec.ofChange fnExactFlushWrong)

/-- 'laws.FnExactTabs': WHATEVER THE INPUT: true; the input reads as it did. -/
def fnExactTabsSpec : ChangeSpec := { name := "fnExactTabs", fn := fun _ => fun
  | [d1, d2] => { results := [.lit (.bool true)], args := [d1, d2] }
  | _ => none }
def fnExactTabsRow : OpenClaim := { program := "ytbagbfmklpklmaadoor", sum := "6db676cca3ecd851aaeb7b2b81179f919509a2c29007a5a2f92fba60aa262796", func := "loop.example/pub-tabcolumns/laws.FnExactTabs", spec := "fnExactTabs", unfollowed := true, recurses := true, named := ["io.ErrShortWrite"], apart := false, laid := [("io.ErrShortWrite", laid_io_ErrShortWrite)] }
def FnExactTabsSaid : Prop := fnExactTabsRow.holds Tryd.pinned (OpenSpec.ofChange fnExactTabsSpec)

/-- ITS FALSE NEIGHBOUR: 'it returns false'. Refute it at one input. -/
def fnExactTabsWrong : ChangeSpec := { name := "fnExactTabs", fn := fun _ => fun
  | [d1, d2] => { results := [.lit (.bool false)], args := [d1, d2] }
  | _ => none }
def FnExactTabsWrongFalsely : Prop := fnExactTabsRow.holds Tryd.pinned (OpenSpec.ofChange fnExactTabsWrong)

/-- 'laws.FnNoTabWidth': WHATEVER THE INPUT: true; the input reads as it did. -/
def fnNoTabWidthSpec : ChangeSpec := { name := "fnNoTabWidth", fn := fun _ => fun
  | [d1, d2] => { results := [.lit (.bool true)], args := [d1, d2] }
  | _ => none }
def fnNoTabWidthRow : OpenClaim := { program := "ytbagbfmklpklmaadoor", sum := "6db676cca3ecd851aaeb7b2b81179f919509a2c29007a5a2f92fba60aa262796", func := "loop.example/pub-tabcolumns/laws.FnNoTabWidth", spec := "fnNoTabWidth", unfollowed := true, recurses := true, named := ["io.ErrShortWrite"], apart := false, laid := [("io.ErrShortWrite", laid_io_ErrShortWrite)] }
def FnNoTabWidthSaid : Prop := fnNoTabWidthRow.holds Tryd.pinned (OpenSpec.ofChange fnNoTabWidthSpec)

/-- ITS FALSE NEIGHBOUR: 'it returns false'. Refute it at one input. -/
def fnNoTabWidthWrong : ChangeSpec := { name := "fnNoTabWidth", fn := fun _ => fun
  | [d1, d2] => { results := [.lit (.bool false)], args := [d1, d2] }
  | _ => none }
def FnNoTabWidthWrongFalsely : Prop := fnNoTabWidthRow.holds Tryd.pinned (OpenSpec.ofChange fnNoTabWidthWrong)

/-- 'laws.FnTagAll': WHATEVER THE INPUT: true; the input reads as it did. -/
def fnTagAllSpec : ChangeSpec := { name := "fnTagAll", fn := fun _ => fun
  | [d1, d2] => { results := [.lit (.bool true)], args := [d1, d2] }
  | _ => none }
def fnTagAllRow : OpenClaim := { program := "ytbagbfmklpklmaadoor", sum := "6db676cca3ecd851aaeb7b2b81179f919509a2c29007a5a2f92fba60aa262796", func := "loop.example/pub-tabcolumns/laws.FnTagAll", spec := "fnTagAll", unfollowed := true, recurses := true, named := ["io.ErrShortWrite"], apart := false, laid := [("io.ErrShortWrite", laid_io_ErrShortWrite)] }
def FnTagAllSaid : Prop := fnTagAllRow.holds Tryd.pinned (OpenSpec.ofChange fnTagAllSpec)

/-- ITS FALSE NEIGHBOUR: 'it returns false'. Refute it at one input. -/
def fnTagAllWrong : ChangeSpec := { name := "fnTagAll", fn := fun _ => fun
  | [d1, d2] => { results := [.lit (.bool false)], args := [d1, d2] }
  | _ => none }
def FnTagAllWrongFalsely : Prop := fnTagAllRow.holds Tryd.pinned (OpenSpec.ofChange fnTagAllWrong)

/-- 'laws.FnExactCounts': WHATEVER THE INPUT: true; the input reads as it did. -/
def fnExactCountsSpec : ChangeSpec := { name := "fnExactCounts", fn := fun _ => fun
  | [d1, d2] => { results := [.lit (.bool true)], args := [d1, d2] }
  | _ => none }
def fnExactCountsRow : OpenClaim := { program := "ytbagbfmklpklmaadoor", sum := "6db676cca3ecd851aaeb7b2b81179f919509a2c29007a5a2f92fba60aa262796", func := "loop.example/pub-tabcolumns/laws.FnExactCounts", spec := "fnExactCounts", unfollowed := true, recurses := true, named := ["io.ErrShortWrite"], apart := false, laid := [("io.ErrShortWrite", laid_io_ErrShortWrite)] }
def FnExactCountsSaid : Prop := fnExactCountsRow.holds Tryd.pinned (OpenSpec.ofChange fnExactCountsSpec)

/-- ITS FALSE NEIGHBOUR: 'it returns false'. Refute it at one input. -/
def fnExactCountsWrong : ChangeSpec := { name := "fnExactCounts", fn := fun _ => fun
  | [d1, d2] => { results := [.lit (.bool false)], args := [d1, d2] }
  | _ => none }
def FnExactCountsWrongFalsely : Prop := fnExactCountsRow.holds Tryd.pinned (OpenSpec.ofChange fnExactCountsWrong)

/- THE SECOND FORM. 'bulk': how many values and letters a reading holds, each counted each time it is reached (what is shared counts as often as it is met; a slice's spare places count too). A statement '..UptoSaid' is the law's where the arguments, and the package variables that the reading takes, are together of bulk at most 1048576: NARROWER than '..Said'. Prove '..Said' where nothing that the law and all that it calls make is longer than what came in: it says more and counts as full. Else prove '..UptoSaid'. A law counts once. -/
mutual
def uptoBulk {H : Type} : DataW H → Nat
  | .lit (.string bytes) => bytes.length + 1
  | .lit _ => 1
  | .nil => 1
  | .ptr d => uptoBulk d + 1
  | .slice elems spare => uptoBulkAll elems + uptoBulkAll spare + 1
  | .agg parts => uptoBulkAll parts + 1
  | .iface _ d => uptoBulk d + 1
  | .map entries => uptoBulkEntries entries + 1
  | .held _ => 1
def uptoBulkAll {H : Type} : List (DataW H) → Nat
  | [] => 0
  | d :: r => uptoBulk d + uptoBulkAll r
def uptoBulkEntries {H : Type} : List (Lit × DataW H) → Nat
  | [] => 0
  | x :: r => uptoBulkEntry x + uptoBulkEntries r
def uptoBulkEntry {H : Type} : Lit × DataW H → Nat
  | (.string bytes, d) => bytes.length + uptoBulk d + 1
  | (_, d) => uptoBulk d + 1
 end
def uptoSmall : (H : Type) → List (DataW H) → Bool := fun _ ds => decide (uptoBulkAll ds ≤ 1048576)
def OpenSpec.upto (s : _root_.Go.ChangeSpec) : _root_.Go.OpenSpec := { _root_.Go.OpenSpec.ofChange s with cond := some uptoSmall }

/-- 'laws.FnCuts', WHERE WHAT IT READS IS OF BULK AT MOST 1048576: true; the input reads as it did. -/
def fnCutsUptoRow : OpenClaim := { program := "ytbagbfmklpklmaadoor", sum := "6db676cca3ecd851aaeb7b2b81179f919509a2c29007a5a2f92fba60aa262796", func := "loop.example/pub-tabcolumns/laws.FnCuts", spec := "fnCuts", unfollowed := true, recurses := true, named := ["io.ErrShortWrite"], apart := false, laid := [("io.ErrShortWrite", laid_io_ErrShortWrite)], narrowed := true }
def FnCutsUptoSaid : Prop := fnCutsUptoRow.holds Tryd.pinned (OpenSpec.upto fnCutsSpec)

/-- 'laws.FnEscapedAll', WHERE WHAT IT READS IS OF BULK AT MOST 1048576: true; the input reads as it did. -/
def fnEscapedAllUptoRow : OpenClaim := { program := "ytbagbfmklpklmaadoor", sum := "6db676cca3ecd851aaeb7b2b81179f919509a2c29007a5a2f92fba60aa262796", func := "loop.example/pub-tabcolumns/laws.FnEscapedAll", spec := "fnEscapedAll", unfollowed := true, recurses := true, named := ["io.ErrShortWrite"], apart := false, laid := [("io.ErrShortWrite", laid_io_ErrShortWrite)], narrowed := true }
def FnEscapedAllUptoSaid : Prop := fnEscapedAllUptoRow.holds Tryd.pinned (OpenSpec.upto fnEscapedAllSpec)

/-- 'laws.FnExactAll', WHERE WHAT IT READS IS OF BULK AT MOST 1048576: true; the input reads as it did. -/
def fnExactAllUptoRow : OpenClaim := { program := "ytbagbfmklpklmaadoor", sum := "6db676cca3ecd851aaeb7b2b81179f919509a2c29007a5a2f92fba60aa262796", func := "loop.example/pub-tabcolumns/laws.FnExactAll", spec := "fnExactAll", unfollowed := true, recurses := true, named := ["io.ErrShortWrite"], apart := false, laid := [("io.ErrShortWrite", laid_io_ErrShortWrite)], narrowed := true }
def FnExactAllUptoSaid : Prop := fnExactAllUptoRow.holds Tryd.pinned (OpenSpec.upto fnExactAllSpec)

/-- 'laws.FnExactFlush', WHERE WHAT IT READS IS OF BULK AT MOST 1048576: true; the input reads as it did. -/
def fnExactFlushUptoRow : OpenClaim := { program := "ytbagbfmklpklmaadoor", sum := "6db676cca3ecd851aaeb7b2b81179f919509a2c29007a5a2f92fba60aa262796", func := "loop.example/pub-tabcolumns/laws.FnExactFlush", spec := "fnExactFlush", unfollowed := true, recurses := true, named := ["io.ErrShortWrite"], apart := false, laid := [("io.ErrShortWrite", laid_io_ErrShortWrite)], narrowed := true }
def FnExactFlushUptoSaid : Prop := fnExactFlushUptoRow.holds Tryd.pinned (OpenSpec.upto fnExactFlushSpec)

/-- 'laws.FnExactTabs', WHERE WHAT IT READS IS OF BULK AT MOST 1048576: true; the input reads as it did. -/
def fnExactTabsUptoRow : OpenClaim := { program := "ytbagbfmklpklmaadoor", sum := "6db676cca3ecd851aaeb7b2b81179f919509a2c29007a5a2f92fba60aa262796", func := "loop.example/pub-tabcolumns/laws.FnExactTabs", spec := "fnExactTabs", unfollowed := true, recurses := true, named := ["io.ErrShortWrite"], apart := false, laid := [("io.ErrShortWrite", laid_io_ErrShortWrite)], narrowed := true }
def FnExactTabsUptoSaid : Prop := fnExactTabsUptoRow.holds Tryd.pinned (OpenSpec.upto fnExactTabsSpec)

/-- 'laws.FnNoTabWidth', WHERE WHAT IT READS IS OF BULK AT MOST 1048576: true; the input reads as it did. -/
def fnNoTabWidthUptoRow : OpenClaim := { program := "ytbagbfmklpklmaadoor", sum := "6db676cca3ecd851aaeb7b2b81179f919509a2c29007a5a2f92fba60aa262796", func := "loop.example/pub-tabcolumns/laws.FnNoTabWidth", spec := "fnNoTabWidth", unfollowed := true, recurses := true, named := ["io.ErrShortWrite"], apart := false, laid := [("io.ErrShortWrite", laid_io_ErrShortWrite)], narrowed := true }
def FnNoTabWidthUptoSaid : Prop := fnNoTabWidthUptoRow.holds Tryd.pinned (OpenSpec.upto fnNoTabWidthSpec)

/-- 'laws.FnTagAll', WHERE WHAT IT READS IS OF BULK AT MOST 1048576: true; the input reads as it did. -/
def fnTagAllUptoRow : OpenClaim := { program := "ytbagbfmklpklmaadoor", sum := "6db676cca3ecd851aaeb7b2b81179f919509a2c29007a5a2f92fba60aa262796", func := "loop.example/pub-tabcolumns/laws.FnTagAll", spec := "fnTagAll", unfollowed := true, recurses := true, named := ["io.ErrShortWrite"], apart := false, laid := [("io.ErrShortWrite", laid_io_ErrShortWrite)], narrowed := true }
def FnTagAllUptoSaid : Prop := fnTagAllUptoRow.holds Tryd.pinned (OpenSpec.upto fnTagAllSpec)

/-- 'laws.FnExactCounts', WHERE WHAT IT READS IS OF BULK AT MOST 1048576: true; the input reads as it did. -/
def fnExactCountsUptoRow : OpenClaim := { program := "ytbagbfmklpklmaadoor", sum := "6db676cca3ecd851aaeb7b2b81179f919509a2c29007a5a2f92fba60aa262796", func := "loop.example/pub-tabcolumns/laws.FnExactCounts", spec := "fnExactCounts", unfollowed := true, recurses := true, named := ["io.ErrShortWrite"], apart := false, laid := [("io.ErrShortWrite", laid_io_ErrShortWrite)], narrowed := true }
def FnExactCountsUptoSaid : Prop := fnExactCountsUptoRow.holds Tryd.pinned (OpenSpec.upto fnExactCountsSpec)

end Rows
end Go.Proofs.YtbagbfmklpklmaaDoor

/-
  NARROWER THAN 'FOR EVERY INPUT', by the rows' own cells (each row's printed sentence says how): FnAlignedStays: laid · FnAsManyLines: laid · FnBarsAlign: laid · FnBarsOnly: laid · FnBlocks: laid · FnFeeds: laid · FnMoreMin: laid · FnMorePad: laid · FnNothingAdded: laid · FnRightAsLong: laid · FnSoftAsHard: laid · FnTabsLeft: laid.
  DERIVED. THE GIVEN ROWS OF THIS SEAT. 12 by the template 'for every input the law returns true; each argument reads behind the call as it read before'; 0 by the template 'total and deterministic' (their statements: YthcjaegnnfiboaaDoorTotals.lean).
  GIVEN WITH THE SEED: the statements are not yours to turn. If you find one false, say at which input.
  Laid BY PROGRAM, IN A SANDBOX (cutbox-rows.mjs): the forced cells as the released guide's own fill.sh prints them over the translation 1a9ada3afdb5d37c… (all of the seat's roots in one cut). By AI agents, Wed Nov 11 2026. No macro, syntax, notation, axiom, sorry.
-/
import Derived.Test.YthcjaegnnfiboaaDoorChecked
import GoSem.PinnedTables
import GoSem.Claim
import GoSem.ClaimJoined
import GoSem.ClaimMapViews
import Derived.JoinedTies
import Derived.KernelRfl
namespace Go.Proofs.YthcjaegnnfiboaaDoor
/- THE CELL 'sum', in the pinned program and in every row, IS THE sha256 OF THE DUMP (.gsa) THAT YthcjaegnnfiboaaDoorProg.lean LOADS. Nothing in Lean hashes anything: it is a label: what it is worth is what the hold of that sum in a sandbox is worth. -/
noncomputable def Tryd.pinned : Pinned := { name := "ythcjaegnnfiboaadoor", sum := "1a9ada3afdb5d37c8ed538d63b689f1d8c6bbee250352fd68793404d9d695a71", checked := Tryd.checked }
namespace Rows
def none {H : Type} : Left H := { results := [], args := [] }

/- WHAT THE LISTED PACKAGE-LEVEL VARIABLES READ AS WHEN THE CALL BEGINS. Each datum BY PROGRAM (the guide's laid-datum.mjs) off the statement by which the dump's own 'gosem.cut.vars' lays the variable. In a bare row this is a premise. The card (YthcjaegnnfiboaaDoorCards.lean) ties it to the program's text. -/
def laid_unicode_utf8_acceptRanges {H : Type} : DataW H := .agg [.agg [.lit (.int .u8 128), .lit (.int .u8 191)], .agg [.lit (.int .u8 160), .lit (.int .u8 191)], .agg [.lit (.int .u8 128), .lit (.int .u8 159)], .agg [.lit (.int .u8 144), .lit (.int .u8 191)], .agg [.lit (.int .u8 128), .lit (.int .u8 143)], .agg [.lit (.int .u8 0), .lit (.int .u8 0)], .agg [.lit (.int .u8 0), .lit (.int .u8 0)], .agg [.lit (.int .u8 0), .lit (.int .u8 0)], .agg [.lit (.int .u8 0), .lit (.int .u8 0)], .agg [.lit (.int .u8 0), .lit (.int .u8 0)], .agg [.lit (.int .u8 0), .lit (.int .u8 0)], .agg [.lit (.int .u8 0), .lit (.int .u8 0)], .agg [.lit (.int .u8 0), .lit (.int .u8 0)], .agg [.lit (.int .u8 0), .lit (.int .u8 0)], .agg [.lit (.int .u8 0), .lit (.int .u8 0)], .agg [.lit (.int .u8 0), .lit (.int .u8 0)]]
def laid_io_ErrShortWrite {H : Type} : DataW H := .iface "*errors.errorString" (.ptr (.agg [.lit (.string [115, 104, 111, 114, 116, 32, 119, 114, 105, 116, 101])]))
/-- One of Go's own tables, pinned by name: the form's constant. -/
def laid_unicode_utf8_first : DataW Unit := Go.Pinned.utf8First

/-- 'laws.FnAlignedStays': WHATEVER THE INPUT: true; the input reads as it did. -/
def fnAlignedStaysSpec : ChangeSpec := { name := "fnAlignedStays", fn := fun _ => fun
  | [d1, d2] => { results := [.lit (.bool true)], args := [d1, d2] }
  | _ => none }
def fnAlignedStaysRow : OpenClaim := { program := "ythcjaegnnfiboaadoor", sum := "1a9ada3afdb5d37c8ed538d63b689f1d8c6bbee250352fd68793404d9d695a71", func := "loop.example/pub-tabcolumns/laws.FnAlignedStays", spec := "fnAlignedStays", unfollowed := true, recurses := true, named := ["unicode/utf8.first", "unicode/utf8.acceptRanges", "io.ErrShortWrite"], apart := false, laid := [("unicode/utf8.acceptRanges", laid_unicode_utf8_acceptRanges), ("io.ErrShortWrite", laid_io_ErrShortWrite), ("unicode/utf8.first", laid_unicode_utf8_first)] }
def FnAlignedStaysSaid : Prop := fnAlignedStaysRow.holds Tryd.pinned (OpenSpec.ofChange fnAlignedStaysSpec)

/-- ITS FALSE NEIGHBOUR: 'it returns false'. Refute it at one input. -/
def fnAlignedStaysWrong : ChangeSpec := { name := "fnAlignedStays", fn := fun _ => fun
  | [d1, d2] => { results := [.lit (.bool false)], args := [d1, d2] }
  | _ => none }
def FnAlignedStaysWrongFalsely : Prop := fnAlignedStaysRow.holds Tryd.pinned (OpenSpec.ofChange fnAlignedStaysWrong)

/-- 'laws.FnAsManyLines': WHATEVER THE INPUT: true; the input reads as it did. -/
def fnAsManyLinesSpec : ChangeSpec := { name := "fnAsManyLines", fn := fun _ => fun
  | [d1, d2] => { results := [.lit (.bool true)], args := [d1, d2] }
  | _ => none }
def fnAsManyLinesRow : OpenClaim := { program := "ythcjaegnnfiboaadoor", sum := "1a9ada3afdb5d37c8ed538d63b689f1d8c6bbee250352fd68793404d9d695a71", func := "loop.example/pub-tabcolumns/laws.FnAsManyLines", spec := "fnAsManyLines", unfollowed := true, recurses := true, named := ["unicode/utf8.first", "unicode/utf8.acceptRanges", "io.ErrShortWrite"], apart := false, laid := [("unicode/utf8.acceptRanges", laid_unicode_utf8_acceptRanges), ("io.ErrShortWrite", laid_io_ErrShortWrite), ("unicode/utf8.first", laid_unicode_utf8_first)] }
def FnAsManyLinesSaid : Prop := fnAsManyLinesRow.holds Tryd.pinned (OpenSpec.ofChange fnAsManyLinesSpec)

/-- ITS FALSE NEIGHBOUR: 'it returns false'. Refute it at one input. -/
def fnAsManyLinesWrong : ChangeSpec := { name := "fnAsManyLines", fn := fun _ => fun
  | [d1, d2] => { results := [.lit (.bool false)], args := [d1, d2] }
  | _ => none }
def FnAsManyLinesWrongFalsely : Prop := fnAsManyLinesRow.holds Tryd.pinned (OpenSpec.ofChange fnAsManyLinesWrong)

/-- 'laws.FnBarsAlign': WHATEVER THE INPUT: true; the input reads as it did. -/
def fnBarsAlignSpec : ChangeSpec := { name := "fnBarsAlign", fn := fun _ => fun
  | [d1, d2] => { results := [.lit (.bool true)], args := [d1, d2] }
  | _ => none }
def fnBarsAlignRow : OpenClaim := { program := "ythcjaegnnfiboaadoor", sum := "1a9ada3afdb5d37c8ed538d63b689f1d8c6bbee250352fd68793404d9d695a71", func := "loop.example/pub-tabcolumns/laws.FnBarsAlign", spec := "fnBarsAlign", unfollowed := true, recurses := true, named := ["unicode/utf8.first", "unicode/utf8.acceptRanges", "io.ErrShortWrite"], apart := false, laid := [("unicode/utf8.acceptRanges", laid_unicode_utf8_acceptRanges), ("io.ErrShortWrite", laid_io_ErrShortWrite), ("unicode/utf8.first", laid_unicode_utf8_first)] }
def FnBarsAlignSaid : Prop := fnBarsAlignRow.holds Tryd.pinned (OpenSpec.ofChange fnBarsAlignSpec)

/-- ITS FALSE NEIGHBOUR: 'it returns false'. Refute it at one input. -/
def fnBarsAlignWrong : ChangeSpec := { name := "fnBarsAlign", fn := fun _ => fun
  | [d1, d2] => { results := [.lit (.bool false)], args := [d1, d2] }
  | _ => none }
def FnBarsAlignWrongFalsely : Prop := fnBarsAlignRow.holds Tryd.pinned (OpenSpec.ofChange fnBarsAlignWrong)

/-- 'laws.FnBarsOnly': WHATEVER THE INPUT: true; the input reads as it did. -/
def fnBarsOnlySpec : ChangeSpec := { name := "fnBarsOnly", fn := fun _ => fun
  | [d1, d2] => { results := [.lit (.bool true)], args := [d1, d2] }
  | _ => none }
def fnBarsOnlyRow : OpenClaim := { program := "ythcjaegnnfiboaadoor", sum := "1a9ada3afdb5d37c8ed538d63b689f1d8c6bbee250352fd68793404d9d695a71", func := "loop.example/pub-tabcolumns/laws.FnBarsOnly", spec := "fnBarsOnly", unfollowed := true, recurses := true, named := ["unicode/utf8.first", "unicode/utf8.acceptRanges", "io.ErrShortWrite"], apart := false, laid := [("unicode/utf8.acceptRanges", laid_unicode_utf8_acceptRanges), ("io.ErrShortWrite", laid_io_ErrShortWrite), ("unicode/utf8.first", laid_unicode_utf8_first)] }
def FnBarsOnlySaid : Prop := fnBarsOnlyRow.holds Tryd.pinned (OpenSpec.ofChange fnBarsOnlySpec)

/-- ITS FALSE NEIGHBOUR: 'it returns false'. Refute it at one input. -/
def fnBarsOnlyWrong : ChangeSpec := { name := "fnBarsOnly", fn := fun _ => fun
  | [d1, d2] => { results := [.lit (.bool false)], args := [d1, d2] }
  | _ => none }
def FnBarsOnlyWrongFalsely : Prop := fnBarsOnlyRow.holds Tryd.pinned (OpenSpec.ofChange fnBarsOnlyWrong)

/-- 'laws.FnBlocks': WHATEVER THE INPUT: true; the input reads as it did. -/
def fnBlocksSpec : ChangeSpec := { name := "fnBlocks", fn := fun _ => fun
  | [d1, d2, d3] => { results := [.lit (.bool true)], args := [d1, d2, d3] }
  | _ => none }
def fnBlocksRow : OpenClaim := { program := "ythcjaegnnfiboaadoor", sum := "1a9ada3afdb5d37c8ed538d63b689f1d8c6bbee250352fd68793404d9d695a71", func := "loop.example/pub-tabcolumns/laws.FnBlocks", spec := "fnBlocks", unfollowed := true, recurses := true, named := ["unicode/utf8.first", "unicode/utf8.acceptRanges", "io.ErrShortWrite"], apart := false, laid := [("unicode/utf8.acceptRanges", laid_unicode_utf8_acceptRanges), ("io.ErrShortWrite", laid_io_ErrShortWrite), ("unicode/utf8.first", laid_unicode_utf8_first)] }
def FnBlocksSaid : Prop := fnBlocksRow.holds Tryd.pinned (OpenSpec.ofChange fnBlocksSpec)

/-- ITS FALSE NEIGHBOUR: 'it returns false'. Refute it at one input. -/
def fnBlocksWrong : ChangeSpec := { name := "fnBlocks", fn := fun _ => fun
  | [d1, d2, d3] => { results := [.lit (.bool false)], args := [d1, d2, d3] }
  | _ => none }
def FnBlocksWrongFalsely : Prop := fnBlocksRow.holds Tryd.pinned (OpenSpec.ofChange fnBlocksWrong)

/-- 'laws.FnFeeds': WHATEVER THE INPUT: true; the input reads as it did. -/
def fnFeedsSpec : ChangeSpec := { name := "fnFeeds", fn := fun _ => fun
  | [d1, d2, d3] => { results := [.lit (.bool true)], args := [d1, d2, d3] }
  | _ => none }
def fnFeedsRow : OpenClaim := { program := "ythcjaegnnfiboaadoor", sum := "1a9ada3afdb5d37c8ed538d63b689f1d8c6bbee250352fd68793404d9d695a71", func := "loop.example/pub-tabcolumns/laws.FnFeeds", spec := "fnFeeds", unfollowed := true, recurses := true, named := ["unicode/utf8.first", "unicode/utf8.acceptRanges", "io.ErrShortWrite"], apart := false, laid := [("unicode/utf8.acceptRanges", laid_unicode_utf8_acceptRanges), ("io.ErrShortWrite", laid_io_ErrShortWrite), ("unicode/utf8.first", laid_unicode_utf8_first)] }
def FnFeedsSaid : Prop := fnFeedsRow.holds Tryd.pinned (OpenSpec.ofChange fnFeedsSpec)

/-- ITS FALSE NEIGHBOUR: 'it returns false'. Refute it at one input. -/
def fnFeedsWrong : ChangeSpec := { name := "fnFeeds", fn := fun _ => fun
  | [d1, d2, d3] => { results := [.lit (.bool false)], args := [d1, d2, d3] }
  | _ => none }
def FnFeedsWrongFalsely : Prop := fnFeedsRow.holds Tryd.pinned (OpenSpec.ofChange fnFeedsWrong)

/-- 'laws.FnMoreMin': WHATEVER THE INPUT: true; the input reads as it did. -/
def fnMoreMinSpec : ChangeSpec := { name := "fnMoreMin", fn := fun _ => fun
  | [d1, d2] => { results := [.lit (.bool true)], args := [d1, d2] }
  | _ => none }
def fnMoreMinRow : OpenClaim := { program := "ythcjaegnnfiboaadoor", sum := "1a9ada3afdb5d37c8ed538d63b689f1d8c6bbee250352fd68793404d9d695a71", func := "loop.example/pub-tabcolumns/laws.FnMoreMin", spec := "fnMoreMin", unfollowed := true, recurses := true, named := ["unicode/utf8.first", "unicode/utf8.acceptRanges", "io.ErrShortWrite"], apart := false, laid := [("unicode/utf8.acceptRanges", laid_unicode_utf8_acceptRanges), ("io.ErrShortWrite", laid_io_ErrShortWrite), ("unicode/utf8.first", laid_unicode_utf8_first)] }
def FnMoreMinSaid : Prop := fnMoreMinRow.holds Tryd.pinned (OpenSpec.ofChange fnMoreMinSpec)

/-- ITS FALSE NEIGHBOUR: 'it returns false'. Refute it at one input. -/
def fnMoreMinWrong : ChangeSpec := { name := "fnMoreMin", fn := fun _ => fun
  | [d1, d2] => { results := [.lit (.bool false)], args := [d1, d2] }
  | _ => none }
def FnMoreMinWrongFalsely : Prop := fnMoreMinRow.holds Tryd.pinned (OpenSpec.ofChange fnMoreMinWrong)

/-- 'laws.FnMorePad': WHATEVER THE INPUT: true; the input reads as it did. -/
def fnMorePadSpec : ChangeSpec := { name := "fnMorePad", fn := fun _ => fun
  | [d1, d2] => { results := [.lit (.bool true)], args := [d1, d2] }
  | _ => none }
def fnMorePadRow : OpenClaim := { program := "ythcjaegnnfiboaadoor", sum := "1a9ada3afdb5d37c8ed538d63b689f1d8c6bbee250352fd68793404d9d695a71", func := "loop.example/pub-tabcolumns/laws.FnMorePad", spec := "fnMorePad", unfollowed := true, recurses := true, named := ["unicode/utf8.first", "unicode/utf8.acceptRanges", "io.ErrShortWrite"], apart := false, laid := [("unicode/utf8.acceptRanges", laid_unicode_utf8_acceptRanges), ("io.ErrShortWrite", laid_io_ErrShortWrite), ("unicode/utf8.first", laid_unicode_utf8_first)] }
def FnMorePadSaid : Prop := fnMorePadRow.holds Tryd.pinned (OpenSpec.ofChange fnMorePadSpec)

/-- ITS FALSE NEIGHBOUR: 'it returns false'. Refute it at one input. -/
def fnMorePadWrong : ChangeSpec := { name := "fnMorePad", fn := fun _ => fun
  | [d1, d2] => { results := [.lit (.bool false)], args := [d1, d2] }
  | _ => none }
def FnMorePadWrongFalsely : Prop := fnMorePadRow.holds Tryd.pinned (OpenSpec.ofChange fnMorePadWrong)

/-- 'laws.FnNothingAdded': WHATEVER THE INPUT: true; the input reads as it did. -/
def fnNothingAddedSpec : ChangeSpec := { name := "fnNothingAdded", fn := fun _ => fun
  | [d1, d2] => { results := [.lit (.bool true)], args := [d1, d2] }
  | _ => none }
def fnNothingAddedRow : OpenClaim := { program := "ythcjaegnnfiboaadoor", sum := "1a9ada3afdb5d37c8ed538d63b689f1d8c6bbee250352fd68793404d9d695a71", func := "loop.example/pub-tabcolumns/laws.FnNothingAdded", spec := "fnNothingAdded", unfollowed := true, recurses := true, named := ["unicode/utf8.first", "unicode/utf8.acceptRanges", "io.ErrShortWrite"], apart := false, laid := [("unicode/utf8.acceptRanges", laid_unicode_utf8_acceptRanges), ("io.ErrShortWrite", laid_io_ErrShortWrite), ("unicode/utf8.first", laid_unicode_utf8_first)] }
def FnNothingAddedSaid : Prop := fnNothingAddedRow.holds Tryd.pinned (OpenSpec.ofChange fnNothingAddedSpec)

/-- ITS FALSE NEIGHBOUR: 'it returns false'. Refute it at one input. -/
def fnNothingAddedWrong : ChangeSpec := { name := "fnNothingAdded", fn := fun _ => fun
  | [d1, d2] => { results := [.lit (.bool false)], args := [d1, d2] }
  | _ => none }
def FnNothingAddedWrongFalsely : Prop := fnNothingAddedRow.holds Tryd.pinned (OpenSpec.ofChange fnNothingAddedWrong)

/-- 'laws.FnRightAsLong': WHATEVER THE INPUT: true; the input reads as it did. -/
def fnRightAsLongSpec : ChangeSpec := { name := "fnRightAsLong", fn := fun _ => fun
  | [d1, d2] => { results := [.lit (.bool true)], args := [d1, d2] }
  | _ => none }
def fnRightAsLongRow : OpenClaim := { program := "ythcjaegnnfiboaadoor", sum := "1a9ada3afdb5d37c8ed538d63b689f1d8c6bbee250352fd68793404d9d695a71", func := "loop.example/pub-tabcolumns/laws.FnRightAsLong", spec := "fnRightAsLong", unfollowed := true, recurses := true, named := ["unicode/utf8.first", "unicode/utf8.acceptRanges", "io.ErrShortWrite"], apart := false, laid := [("unicode/utf8.acceptRanges", laid_unicode_utf8_acceptRanges), ("io.ErrShortWrite", laid_io_ErrShortWrite), ("unicode/utf8.first", laid_unicode_utf8_first)] }
def FnRightAsLongSaid : Prop := fnRightAsLongRow.holds Tryd.pinned (OpenSpec.ofChange fnRightAsLongSpec)

/-- ITS FALSE NEIGHBOUR: 'it returns false'. Refute it at one input. -/
def fnRightAsLongWrong : ChangeSpec := { name := "fnRightAsLong", fn := fun _ => fun
  | [d1, d2] => { results := [.lit (.bool false)], args := [d1, d2] }
  | _ => none }
def FnRightAsLongWrongFalsely : Prop := fnRightAsLongRow.holds Tryd.pinned (OpenSpec.ofChange fnRightAsLongWrong)

/-- 'laws.FnSoftAsHard': WHATEVER THE INPUT: true; the input reads as it did. -/
def fnSoftAsHardSpec : ChangeSpec := { name := "fnSoftAsHard", fn := fun _ => fun
  | [d1, d2] => { results := [.lit (.bool true)], args := [d1, d2] }
  | _ => none }
def fnSoftAsHardRow : OpenClaim := { program := "ythcjaegnnfiboaadoor", sum := "1a9ada3afdb5d37c8ed538d63b689f1d8c6bbee250352fd68793404d9d695a71", func := "loop.example/pub-tabcolumns/laws.FnSoftAsHard", spec := "fnSoftAsHard", unfollowed := true, recurses := true, named := ["unicode/utf8.first", "unicode/utf8.acceptRanges", "io.ErrShortWrite"], apart := false, laid := [("unicode/utf8.acceptRanges", laid_unicode_utf8_acceptRanges), ("io.ErrShortWrite", laid_io_ErrShortWrite), ("unicode/utf8.first", laid_unicode_utf8_first)] }
def FnSoftAsHardSaid : Prop := fnSoftAsHardRow.holds Tryd.pinned (OpenSpec.ofChange fnSoftAsHardSpec)

/-- ITS FALSE NEIGHBOUR: 'it returns false'. Refute it at one input. -/
def fnSoftAsHardWrong : ChangeSpec := { name := "fnSoftAsHard", fn := fun _ => fun
  | [d1, d2] => { results := [.lit (.bool false)], args := [d1, d2] }
  | _ => none }
def FnSoftAsHardWrongFalsely : Prop := fnSoftAsHardRow.holds Tryd.pinned (OpenSpec.ofChange fnSoftAsHardWrong)

/-- 'laws.FnTabsLeft': WHATEVER THE INPUT: true; the input reads as it did. -/
def fnTabsLeftSpec : ChangeSpec := { name := "fnTabsLeft", fn := fun _ => fun
  | [d1, d2] => { results := [.lit (.bool true)], args := [d1, d2] }
  | _ => none }
def fnTabsLeftRow : OpenClaim := { program := "ythcjaegnnfiboaadoor", sum := "1a9ada3afdb5d37c8ed538d63b689f1d8c6bbee250352fd68793404d9d695a71", func := "loop.example/pub-tabcolumns/laws.FnTabsLeft", spec := "fnTabsLeft", unfollowed := true, recurses := true, named := ["unicode/utf8.first", "unicode/utf8.acceptRanges", "io.ErrShortWrite"], apart := false, laid := [("unicode/utf8.acceptRanges", laid_unicode_utf8_acceptRanges), ("io.ErrShortWrite", laid_io_ErrShortWrite), ("unicode/utf8.first", laid_unicode_utf8_first)] }
def FnTabsLeftSaid : Prop := fnTabsLeftRow.holds Tryd.pinned (OpenSpec.ofChange fnTabsLeftSpec)

/-- ITS FALSE NEIGHBOUR: 'it returns false'. Refute it at one input. -/
def fnTabsLeftWrong : ChangeSpec := { name := "fnTabsLeft", fn := fun _ => fun
  | [d1, d2] => { results := [.lit (.bool false)], args := [d1, d2] }
  | _ => none }
def FnTabsLeftWrongFalsely : Prop := fnTabsLeftRow.holds Tryd.pinned (OpenSpec.ofChange fnTabsLeftWrong)

/- THE SECOND FORM. 'bulk': how many values and letters a reading holds, each counted each time it is reached (what is shared counts as often as it is met; a slice's spare places count too). A statement '..UptoSaid' is the law's where the arguments, and the package variables that the reading takes, are together of bulk at most 1048576: NARROWER than '..Said'. Prove '..Said' where nothing that the law and all that it calls make is longer than what came in: it says more and counts as full. Else prove '..UptoSaid'. A law counts once. -/
mutual
def uptoBulk {H : Type} : DataW H → Nat
  | .lit (.string bytes) => bytes.length + 1
  | .lit _ => 1
  | .nil => 1
  | .ptr d => uptoBulk d + 1
  | .slice elems spare => uptoBulkAll elems + uptoBulkAll spare + 1
  | .agg parts => uptoBulkAll parts + 1
  | .iface _ d => uptoBulk d + 1
  | .map entries => uptoBulkEntries entries + 1
  | .held _ => 1
def uptoBulkAll {H : Type} : List (DataW H) → Nat
  | [] => 0
  | d :: r => uptoBulk d + uptoBulkAll r
def uptoBulkEntries {H : Type} : List (Lit × DataW H) → Nat
  | [] => 0
  | x :: r => uptoBulkEntry x + uptoBulkEntries r
def uptoBulkEntry {H : Type} : Lit × DataW H → Nat
  | (.string bytes, d) => bytes.length + uptoBulk d + 1
  | (_, d) => uptoBulk d + 1
 end
def uptoSmall : (H : Type) → List (DataW H) → Bool := fun _ ds => decide (uptoBulkAll ds ≤ 1048576)
def OpenSpec.upto (s : _root_.Go.ChangeSpec) : _root_.Go.OpenSpec := { _root_.Go.OpenSpec.ofChange s with cond := some uptoSmall }

/-- 'laws.FnAlignedStays', WHERE WHAT IT READS IS OF BULK AT MOST 1048576: true; the input reads as it did. -/
def fnAlignedStaysUptoRow : OpenClaim := { program := "ythcjaegnnfiboaadoor", sum := "1a9ada3afdb5d37c8ed538d63b689f1d8c6bbee250352fd68793404d9d695a71", func := "loop.example/pub-tabcolumns/laws.FnAlignedStays", spec := "fnAlignedStays", unfollowed := true, recurses := true, named := ["unicode/utf8.first", "unicode/utf8.acceptRanges", "io.ErrShortWrite"], apart := false, laid := [("unicode/utf8.acceptRanges", laid_unicode_utf8_acceptRanges), ("io.ErrShortWrite", laid_io_ErrShortWrite), ("unicode/utf8.first", laid_unicode_utf8_first)], narrowed := true }
def FnAlignedStaysUptoSaid : Prop := fnAlignedStaysUptoRow.holds Tryd.pinned (OpenSpec.upto fnAlignedStaysSpec)

/-- 'laws.FnAsManyLines', WHERE WHAT IT READS IS OF BULK AT MOST 1048576: true; the input reads as it did. -/
def fnAsManyLinesUptoRow : OpenClaim := { program := "ythcjaegnnfiboaadoor", sum := "1a9ada3afdb5d37c8ed538d63b689f1d8c6bbee250352fd68793404d9d695a71", func := "loop.example/pub-tabcolumns/laws.FnAsManyLines", spec := "fnAsManyLines", unfollowed := true, recurses := true, named := ["unicode/utf8.first", "unicode/utf8.acceptRanges", "io.ErrShortWrite"], apart := false, laid := [("unicode/utf8.acceptRanges", laid_unicode_utf8_acceptRanges), ("io.ErrShortWrite", laid_io_ErrShortWrite), ("unicode/utf8.first", laid_unicode_utf8_first)], narrowed := true }
def FnAsManyLinesUptoSaid : Prop := fnAsManyLinesUptoRow.holds Tryd.pinned (OpenSpec.upto fnAsManyLinesSpec)

/-- 'laws.FnBarsAlign', WHERE WHAT IT READS IS OF BULK AT MOST 1048576: true; the input reads as it did. -/
def fnBarsAlignUptoRow : OpenClaim := { program := "ythcjaegnnfiboaadoor", sum := "1a9ada3afdb5d37c8ed538d63b689f1d8c6bbee250352fd68793404d9d695a71", func := "loop.example/pub-tabcolumns/laws.FnBarsAlign", spec := "fnBarsAlign", unfollowed := true, recurses := true, named := ["unicode/utf8.first", "unicode/utf8.acceptRanges", "io.ErrShortWrite"], apart := false, laid := [("unicode/utf8.acceptRanges", laid_unicode_utf8_acceptRanges), ("io.ErrShortWrite", laid_io_ErrShortWrite), ("unicode/utf8.first", laid_unicode_utf8_first)], narrowed := true }
def FnBarsAlignUptoSaid : Prop := fnBarsAlignUptoRow.holds Tryd.pinned (OpenSpec.upto fnBarsAlignSpec)

/-- 'laws.FnBarsOnly', WHERE WHAT IT READS IS OF BULK AT MOST 1048576: true; the input reads as it did. -/
def fnBarsOnlyUptoRow : OpenClaim := { program := "ythcjaegnnfiboaadoor", sum := "1a9ada3afdb5d37c8ed538d63b689f1d8c6bbee250352fd68793404d9d695a71", func := "loop.example/pub-tabcolumns/laws.FnBarsOnly", spec := "fnBarsOnly", unfollowed := true, recurses := true, named := ["unicode/utf8.first", "unicode/utf8.acceptRanges", "io.ErrShortWrite"], apart := false, laid := [("unicode/utf8.acceptRanges", laid_unicode_utf8_acceptRanges), ("io.ErrShortWrite", laid_io_ErrShortWrite), ("unicode/utf8.first", laid_unicode_utf8_first)], narrowed := true }
def FnBarsOnlyUptoSaid : Prop := fnBarsOnlyUptoRow.holds Tryd.pinned (OpenSpec.upto fnBarsOnlySpec)

/-- 'laws.FnBlocks', WHERE WHAT IT READS IS OF BULK AT MOST 1048576: true; the input reads as it did. -/
def fnBlocksUptoRow : OpenClaim := { program := "ythcjaegnnfiboaadoor", sum := "1a9ada3afdb5d37c8ed538d63b689f1d8c6bbee250352fd68793404d9d695a71", func := "loop.example/pub-tabcolumns/laws.FnBlocks", spec := "fnBlocks", unfollowed := true, recurses := true, named := ["unicode/utf8.first", "unicode/utf8.acceptRanges", "io.ErrShortWrite"], apart := false, laid := [("unicode/utf8.acceptRanges", laid_unicode_utf8_acceptRanges), ("io.ErrShortWrite", laid_io_ErrShortWrite), ("unicode/utf8.first", laid_unicode_utf8_first)], narrowed := true }
def FnBlocksUptoSaid : Prop := fnBlocksUptoRow.holds Tryd.pinned (OpenSpec.upto fnBlocksSpec)

/-- 'laws.FnFeeds', WHERE WHAT IT READS IS OF BULK AT MOST 1048576: true; the input reads as it did. -/
def fnFeedsUptoRow : OpenClaim := { program := "ythcjaegnnfiboaadoor", sum := "1a9ada3afdb5d37c8ed538d63b689f1d8c6bbee250352fd68793404d9d695a71", func := "loop.example/pub-tabcolumns/laws.FnFeeds", spec := "fnFeeds", unfollowed := true, recurses := true, named := ["unicode/utf8.first", "unicode/utf8.acceptRanges", "io.ErrShortWrite"], apart := false, laid := [("unicode/utf8.acceptRanges", laid_unicode_utf8_acceptRanges), ("io.ErrShortWrite", laid_io_ErrShortWrite), ("unicode/utf8.first", laid_unicode_utf8_first)], narrowed := true }
def FnFeedsUptoSaid : Prop := fnFeedsUptoRow.holds Tryd.pinned (OpenSpec.upto fnFeedsSpec)

/-- 'laws.FnMoreMin', WHERE WHAT IT READS IS OF BULK AT MOST 1048576: true; the input reads as it did. -/
def fnMoreMinUptoRow : OpenClaim := { program := "ythcjaegnnfiboaadoor", sum := "1a9ada3afdb5d37c8ed538d63b689f1d8c6bbee250352fd68793404d9d695a71", func := "loop.example/pub-tabcolumns/laws.FnMoreMin", spec := "fnMoreMin", unfollowed := true, recurses := true, named := ["unicode/utf8.first", "unicode/utf8.acceptRanges", "io.ErrShortWrite"], apart := false, laid := [("unicode/utf8.acceptRanges", laid_unicode_utf8_acceptRanges), ("io.ErrShortWrite", laid_io_ErrShortWrite), ("unicode/utf8.first", laid_unicode_utf8_first)], narrowed := true }
def FnMoreMinUptoSaid : Prop := fnMoreMinUptoRow.holds Tryd.pinned (OpenSpec.upto fnMoreMinSpec)

/-- 'laws.FnMorePad', WHERE WHAT IT READS IS OF BULK AT MOST 1048576: true; the input reads as it did. -/
def fnMorePadUptoRow : OpenClaim := { program := "ythcjaegnnfiboaadoor", sum := "1a9ada3afdb5d37c8ed538d63b689f1d8c6bbee250352fd68793404d9d695a71", func := "loop.example/pub-tabcolumns/laws.FnMorePad", spec := "fnMorePad", unfollowed := true, recurses := true, named := ["unicode/utf8.first", "unicode/utf8.acceptRanges", "io.ErrShortWrite"], apart := false, laid := [("unicode/utf8.acceptRanges", laid_unicode_utf8_acceptRanges), ("io.ErrShortWrite", laid_io_ErrShortWrite), ("unicode/utf8.first", laid_unicode_utf8_first)], narrowed := true }
def FnMorePadUptoSaid : Prop := fnMorePadUptoRow.holds Tryd.pinned (OpenSpec.upto fnMorePadSpec)

/-- 'laws.FnNothingAdded', WHERE WHAT IT READS IS OF BULK AT MOST 1048576: true; the input reads as it did. -/
def fnNothingAddedUptoRow : OpenClaim := { program := "ythcjaegnnfiboaadoor", sum := "1a9ada3afdb5d37c8ed538d63b689f1d8c6bbee250352fd68793404d9d695a71", func := "loop.example/pub-tabcolumns/laws.FnNothingAdded", spec := "fnNothingAdded", unfollowed := true, recurses := true, named := ["unicode/utf8.first", "unicode/utf8.acceptRanges", "io.ErrShortWrite"], apart := false, laid := [("unicode/utf8.acceptRanges", laid_unicode_utf8_acceptRanges), ("io.ErrShortWrite", laid_io_ErrShortWrite), ("unicode/utf8.first", laid_unicode_utf8_first)], narrowed := true }
def FnNothingAddedUptoSaid : Prop := fnNothingAddedUptoRow.holds Tryd.pinned (OpenSpec.upto fnNothingAddedSpec)

/-- 'laws.FnRightAsLong', WHERE WHAT IT READS IS OF BULK AT MOST 1048576: true; the input reads as it did. -/
def fnRightAsLongUptoRow : OpenClaim := { program := "ythcjaegnnfiboaadoor", sum := "1a9ada3afdb5d37c8ed538d63b689f1d8c6bbee250352fd68793404d9d695a71", func := "loop.example/pub-tabcolumns/laws.FnRightAsLong", spec := "fnRightAsLong", unfollowed := true, recurses := true, named := ["unicode/utf8.first", "unicode/utf8.acceptRanges", "io.ErrShortWrite"], apart := false, laid := [("unicode/utf8.acceptRanges", laid_unicode_utf8_acceptRanges), ("io.ErrShortWrite", laid_io_ErrShortWrite), ("unicode/utf8.first", laid_unicode_utf8_first)], narrowed := true }
def FnRightAsLongUptoSaid : Prop := fnRightAsLongUptoRow.holds Tryd.pinned (OpenSpec.upto fnRightAsLongSpec)

/-- 'laws.FnSoftAsHard', WHERE WHAT IT READS IS OF BULK AT MOST 1048576: true; the input reads as it did. -/
def fnSoftAsHardUptoRow : OpenClaim := { program := "ythcjaegnnfiboaadoor", sum := "1a9ada3afdb5d37c8ed538d63b689f1d8c6bbee250352fd68793404d9d695a71", func := "loop.example/pub-tabcolumns/laws.FnSoftAsHard", spec := "fnSoftAsHard", unfollowed := true, recurses := true, named := ["unicode/utf8.first", "unicode/utf8.acceptRanges", "io.ErrShortWrite"], apart := false, laid := [("unicode/utf8.acceptRanges", laid_unicode_utf8_acceptRanges), ("io.ErrShortWrite", laid_io_ErrShortWrite), ("unicode/utf8.first", laid_unicode_utf8_first)], narrowed := true }
def FnSoftAsHardUptoSaid : Prop := fnSoftAsHardUptoRow.holds Tryd.pinned (OpenSpec.upto fnSoftAsHardSpec)

/-- 'laws.FnTabsLeft', WHERE WHAT IT READS IS OF BULK AT MOST 1048576: true; the input reads as it did. -/
def fnTabsLeftUptoRow : OpenClaim := { program := "ythcjaegnnfiboaadoor", sum := "1a9ada3afdb5d37c8ed538d63b689f1d8c6bbee250352fd68793404d9d695a71", func := "loop.example/pub-tabcolumns/laws.FnTabsLeft", spec := "fnTabsLeft", unfollowed := true, recurses := true, named := ["unicode/utf8.first", "unicode/utf8.acceptRanges", "io.ErrShortWrite"], apart := false, laid := [("unicode/utf8.acceptRanges", laid_unicode_utf8_acceptRanges), ("io.ErrShortWrite", laid_io_ErrShortWrite), ("unicode/utf8.first", laid_unicode_utf8_first)], narrowed := true }
def FnTabsLeftUptoSaid : Prop := fnTabsLeftUptoRow.holds Tryd.pinned (OpenSpec.upto fnTabsLeftSpec)

end Rows
end Go.Proofs.YthcjaegnnfiboaaDoor

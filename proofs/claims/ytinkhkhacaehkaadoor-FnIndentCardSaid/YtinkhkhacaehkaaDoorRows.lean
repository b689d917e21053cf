/-
  NARROWER THAN 'FOR EVERY INPUT', by the rows' own cells (each row's printed sentence says how): FnByBytes: laid · FnDiscardHard: laid · FnExactSpaces: laid · FnExactTame: laid · FnExactWrites: laid · FnIndent: laid · FnNoEscapes: laid · FnNoTags: laid · FnNothingLost: laid · FnSoftAsHard: laid · FnTabsLeft: laid · FnTabsLost: laid.
  DERIVED. THE GIVEN ROWS OF THIS SEAT. 12 by the template 'for every input the law returns true; each argument reads behind the call as it read before'; 0 by the template 'total and deterministic' (their statements: YtinkhkhacaehkaaDoorTotals.lean).
  GIVEN WITH THE SEED: the statements are not yours to turn. If you find one false, say at which input.
  Laid BY PROGRAM, IN A SANDBOX (cutbox-rows.mjs): the forced cells as the released guide's own fill.sh prints them over the translation a174d24fe735c108… (all of the seat's roots in one cut). By AI agents, Wed Nov 11 2026. No macro, syntax, notation, axiom, sorry.
-/
import Derived.Test.YtinkhkhacaehkaaDoorChecked
import GoSem.PinnedTables
import GoSem.Claim
import GoSem.ClaimJoined
import GoSem.ClaimMapViews
import Derived.JoinedTies
import Derived.KernelRfl
namespace Go.Proofs.YtinkhkhacaehkaaDoor
/- THE CELL 'sum', in the pinned program and in every row, IS THE sha256 OF THE DUMP (.gsa) THAT YtinkhkhacaehkaaDoorProg.lean LOADS. Nothing in Lean hashes anything: it is a label: what it is worth is what the hold of that sum in a sandbox is worth. -/
noncomputable def Tryd.pinned : Pinned := { name := "ytinkhkhacaehkaadoor", sum := "a174d24fe735c108f4b57b70bc775f4abc862cfc56f2710ffc3d8ab9938743f8", checked := Tryd.checked }
namespace Rows
def none {H : Type} : Left H := { results := [], args := [] }

/- WHAT THE LISTED PACKAGE-LEVEL VARIABLES READ AS WHEN THE CALL BEGINS. Each datum BY PROGRAM (the guide's laid-datum.mjs) off the statement by which the dump's own 'gosem.cut.vars' lays the variable. In a bare row this is a premise. The card (YtinkhkhacaehkaaDoorCards.lean) ties it to the program's text. -/
def laid_unicode_utf8_acceptRanges {H : Type} : DataW H := .agg [.agg [.lit (.int .u8 128), .lit (.int .u8 191)], .agg [.lit (.int .u8 160), .lit (.int .u8 191)], .agg [.lit (.int .u8 128), .lit (.int .u8 159)], .agg [.lit (.int .u8 144), .lit (.int .u8 191)], .agg [.lit (.int .u8 128), .lit (.int .u8 143)], .agg [.lit (.int .u8 0), .lit (.int .u8 0)], .agg [.lit (.int .u8 0), .lit (.int .u8 0)], .agg [.lit (.int .u8 0), .lit (.int .u8 0)], .agg [.lit (.int .u8 0), .lit (.int .u8 0)], .agg [.lit (.int .u8 0), .lit (.int .u8 0)], .agg [.lit (.int .u8 0), .lit (.int .u8 0)], .agg [.lit (.int .u8 0), .lit (.int .u8 0)], .agg [.lit (.int .u8 0), .lit (.int .u8 0)], .agg [.lit (.int .u8 0), .lit (.int .u8 0)], .agg [.lit (.int .u8 0), .lit (.int .u8 0)], .agg [.lit (.int .u8 0), .lit (.int .u8 0)]]
def laid_io_ErrShortWrite {H : Type} : DataW H := .iface "*errors.errorString" (.ptr (.agg [.lit (.string [115, 104, 111, 114, 116, 32, 119, 114, 105, 116, 101])]))
/-- One of Go's own tables, pinned by name: the form's constant. -/
def laid_unicode_utf8_first : DataW Unit := Go.Pinned.utf8First

/-- 'laws.FnByBytes': WHATEVER THE INPUT: true; the input reads as it did. -/
def fnByBytesSpec : ChangeSpec := { name := "fnByBytes", fn := fun _ => fun
  | [d1, d2] => { results := [.lit (.bool true)], args := [d1, d2] }
  | _ => none }
def fnByBytesRow : OpenClaim := { program := "ytinkhkhacaehkaadoor", sum := "a174d24fe735c108f4b57b70bc775f4abc862cfc56f2710ffc3d8ab9938743f8", func := "loop.example/pub-tabcolumns/laws.FnByBytes", spec := "fnByBytes", unfollowed := true, recurses := true, named := ["unicode/utf8.first", "unicode/utf8.acceptRanges", "io.ErrShortWrite"], apart := false, laid := [("unicode/utf8.acceptRanges", laid_unicode_utf8_acceptRanges), ("io.ErrShortWrite", laid_io_ErrShortWrite), ("unicode/utf8.first", laid_unicode_utf8_first)] }
def FnByBytesSaid : Prop := fnByBytesRow.holds Tryd.pinned (OpenSpec.ofChange fnByBytesSpec)

/-- ITS FALSE NEIGHBOUR: 'it returns false'. Refute it at one input. -/
def fnByBytesWrong : ChangeSpec := { name := "fnByBytes", fn := fun _ => fun
  | [d1, d2] => { results := [.lit (.bool false)], args := [d1, d2] }
  | _ => none }
def FnByBytesWrongFalsely : Prop := fnByBytesRow.holds Tryd.pinned (OpenSpec.ofChange fnByBytesWrong)

/-- 'laws.FnDiscardHard': WHATEVER THE INPUT: true; the input reads as it did. -/
def fnDiscardHardSpec : ChangeSpec := { name := "fnDiscardHard", fn := fun _ => fun
  | [d1, d2] => { results := [.lit (.bool true)], args := [d1, d2] }
  | _ => none }
def fnDiscardHardRow : OpenClaim := { program := "ytinkhkhacaehkaadoor", sum := "a174d24fe735c108f4b57b70bc775f4abc862cfc56f2710ffc3d8ab9938743f8", func := "loop.example/pub-tabcolumns/laws.FnDiscardHard", spec := "fnDiscardHard", unfollowed := true, recurses := true, named := ["unicode/utf8.first", "unicode/utf8.acceptRanges", "io.ErrShortWrite"], apart := false, laid := [("unicode/utf8.acceptRanges", laid_unicode_utf8_acceptRanges), ("io.ErrShortWrite", laid_io_ErrShortWrite), ("unicode/utf8.first", laid_unicode_utf8_first)] }
def FnDiscardHardSaid : Prop := fnDiscardHardRow.holds Tryd.pinned (OpenSpec.ofChange fnDiscardHardSpec)

/-- ITS FALSE NEIGHBOUR: 'it returns false'. Refute it at one input. -/
def fnDiscardHardWrong : ChangeSpec := { name := "fnDiscardHard", fn := fun _ => fun
  | [d1, d2] => { results := [.lit (.bool false)], args := [d1, d2] }
  | _ => none }
def FnDiscardHardWrongFalsely : Prop := fnDiscardHardRow.holds Tryd.pinned (OpenSpec.ofChange fnDiscardHardWrong)

/-- 'laws.FnExactSpaces': WHATEVER THE INPUT: true; the input reads as it did. -/
def fnExactSpacesSpec : ChangeSpec := { name := "fnExactSpaces", fn := fun _ => fun
  | [d1, d2] => { results := [.lit (.bool true)], args := [d1, d2] }
  | _ => none }
def fnExactSpacesRow : OpenClaim := { program := "ytinkhkhacaehkaadoor", sum := "a174d24fe735c108f4b57b70bc775f4abc862cfc56f2710ffc3d8ab9938743f8", func := "loop.example/pub-tabcolumns/laws.FnExactSpaces", spec := "fnExactSpaces", unfollowed := true, recurses := true, named := ["unicode/utf8.first", "unicode/utf8.acceptRanges", "io.ErrShortWrite"], apart := false, laid := [("unicode/utf8.acceptRanges", laid_unicode_utf8_acceptRanges), ("io.ErrShortWrite", laid_io_ErrShortWrite), ("unicode/utf8.first", laid_unicode_utf8_first)] }
def FnExactSpacesSaid : Prop := fnExactSpacesRow.holds Tryd.pinned (OpenSpec.ofChange fnExactSpacesSpec)

/-- ITS FALSE NEIGHBOUR: 'it returns false'. Refute it at one input. -/
def fnExactSpacesWrong : ChangeSpec := { name := "fnExactSpaces", fn := fun _ => fun
  | [d1, d2] => { results := [.lit (.bool false)], args := [d1, d2] }
  | _ => none }
def FnExactSpacesWrongFalsely : Prop := fnExactSpacesRow.holds Tryd.pinned (OpenSpec.ofChange fnExactSpacesWrong)

/-- 'laws.FnExactTame': WHATEVER THE INPUT: true; the input reads as it did. -/
def fnExactTameSpec : ChangeSpec := { name := "fnExactTame", fn := fun _ => fun
  | [d1, d2] => { results := [.lit (.bool true)], args := [d1, d2] }
  | _ => none }
def fnExactTameRow : OpenClaim := { program := "ytinkhkhacaehkaadoor", sum := "a174d24fe735c108f4b57b70bc775f4abc862cfc56f2710ffc3d8ab9938743f8", func := "loop.example/pub-tabcolumns/laws.FnExactTame", spec := "fnExactTame", unfollowed := true, recurses := true, named := ["unicode/utf8.first", "unicode/utf8.acceptRanges", "io.ErrShortWrite"], apart := false, laid := [("unicode/utf8.acceptRanges", laid_unicode_utf8_acceptRanges), ("io.ErrShortWrite", laid_io_ErrShortWrite), ("unicode/utf8.first", laid_unicode_utf8_first)] }
def FnExactTameSaid : Prop := fnExactTameRow.holds Tryd.pinned (OpenSpec.ofChange fnExactTameSpec)

/-- ITS FALSE NEIGHBOUR: 'it returns false'. Refute it at one input. -/
def fnExactTameWrong : ChangeSpec := { name := "fnExactTame", fn := fun _ => fun
  | [d1, d2] => { results := [.lit (.bool false)], args := [d1, d2] }
  | _ => none }
def FnExactTameWrongFalsely : Prop := fnExactTameRow.holds Tryd.pinned (OpenSpec.ofChange fnExactTameWrong)

/-- 'laws.FnExactWrites': WHATEVER THE INPUT: true; the input reads as it did. -/
def fnExactWritesSpec : ChangeSpec := { name := "fnExactWrites", fn := fun _ => fun
  | [d1, d2] => { results := [.lit (.bool true)], args := [d1, d2] }
  | _ => none }
def fnExactWritesRow : OpenClaim := { program := "ytinkhkhacaehkaadoor", sum := "a174d24fe735c108f4b57b70bc775f4abc862cfc56f2710ffc3d8ab9938743f8", func := "loop.example/pub-tabcolumns/laws.FnExactWrites", spec := "fnExactWrites", unfollowed := true, recurses := true, named := ["unicode/utf8.first", "unicode/utf8.acceptRanges", "io.ErrShortWrite"], apart := false, laid := [("unicode/utf8.acceptRanges", laid_unicode_utf8_acceptRanges), ("io.ErrShortWrite", laid_io_ErrShortWrite), ("unicode/utf8.first", laid_unicode_utf8_first)] }
def FnExactWritesSaid : Prop := fnExactWritesRow.holds Tryd.pinned (OpenSpec.ofChange fnExactWritesSpec)

/-- ITS FALSE NEIGHBOUR: 'it returns false'. Refute it at one input. -/
def fnExactWritesWrong : ChangeSpec := { name := "fnExactWrites", fn := fun _ => fun
  | [d1, d2] => { results := [.lit (.bool false)], args := [d1, d2] }
  | _ => none }
def FnExactWritesWrongFalsely : Prop := fnExactWritesRow.holds Tryd.pinned (OpenSpec.ofChange fnExactWritesWrong)

/-- 'laws.FnIndent': WHATEVER THE INPUT: true; the input reads as it did. -/
def fnIndentSpec : ChangeSpec := { name := "fnIndent", fn := fun _ => fun
  | [d1, d2] => { results := [.lit (.bool true)], args := [d1, d2] }
  | _ => none }
def fnIndentRow : OpenClaim := { program := "ytinkhkhacaehkaadoor", sum := "a174d24fe735c108f4b57b70bc775f4abc862cfc56f2710ffc3d8ab9938743f8", func := "loop.example/pub-tabcolumns/laws.FnIndent", spec := "fnIndent", unfollowed := true, recurses := true, named := ["unicode/utf8.first", "unicode/utf8.acceptRanges", "io.ErrShortWrite"], apart := false, laid := [("unicode/utf8.acceptRanges", laid_unicode_utf8_acceptRanges), ("io.ErrShortWrite", laid_io_ErrShortWrite), ("unicode/utf8.first", laid_unicode_utf8_first)] }
def FnIndentSaid : Prop := fnIndentRow.holds Tryd.pinned (OpenSpec.ofChange fnIndentSpec)

/-- ITS FALSE NEIGHBOUR: 'it returns false'. Refute it at one input. -/
def fnIndentWrong : ChangeSpec := { name := "fnIndent", fn := fun _ => fun
  | [d1, d2] => { results := [.lit (.bool false)], args := [d1, d2] }
  | _ => none }
def FnIndentWrongFalsely : Prop := fnIndentRow.holds Tryd.pinned (OpenSpec.ofChange fnIndentWrong)

/-- 'laws.FnNoEscapes': WHATEVER THE INPUT: true; the input reads as it did. -/
def fnNoEscapesSpec : ChangeSpec := { name := "fnNoEscapes", fn := fun _ => fun
  | [d1, d2] => { results := [.lit (.bool true)], args := [d1, d2] }
  | _ => none }
def fnNoEscapesRow : OpenClaim := { program := "ytinkhkhacaehkaadoor", sum := "a174d24fe735c108f4b57b70bc775f4abc862cfc56f2710ffc3d8ab9938743f8", func := "loop.example/pub-tabcolumns/laws.FnNoEscapes", spec := "fnNoEscapes", unfollowed := true, recurses := true, named := ["unicode/utf8.first", "unicode/utf8.acceptRanges", "io.ErrShortWrite"], apart := false, laid := [("unicode/utf8.acceptRanges", laid_unicode_utf8_acceptRanges), ("io.ErrShortWrite", laid_io_ErrShortWrite), ("unicode/utf8.first", laid_unicode_utf8_first)] }
def FnNoEscapesSaid : Prop := fnNoEscapesRow.holds Tryd.pinned (OpenSpec.ofChange fnNoEscapesSpec)

/-- ITS FALSE NEIGHBOUR: 'it returns false'. Refute it at one input. -/
def fnNoEscapesWrong : ChangeSpec := { name := "fnNoEscapes", fn := fun _ => fun
  | [d1, d2] => { results := [.lit (.bool false)], args := [d1, d2] }
  | _ => none }
def FnNoEscapesWrongFalsely : Prop := fnNoEscapesRow.holds Tryd.pinned (OpenSpec.ofChange fnNoEscapesWrong)

/-- 'laws.FnNoTags': WHATEVER THE INPUT: true; the input reads as it did. -/
def fnNoTagsSpec : ChangeSpec := { name := "fnNoTags", fn := fun _ => fun
  | [d1, d2] => { results := [.lit (.bool true)], args := [d1, d2] }
  | _ => none }
def fnNoTagsRow : OpenClaim := { program := "ytinkhkhacaehkaadoor", sum := "a174d24fe735c108f4b57b70bc775f4abc862cfc56f2710ffc3d8ab9938743f8", func := "loop.example/pub-tabcolumns/laws.FnNoTags", spec := "fnNoTags", unfollowed := true, recurses := true, named := ["unicode/utf8.first", "unicode/utf8.acceptRanges", "io.ErrShortWrite"], apart := false, laid := [("unicode/utf8.acceptRanges", laid_unicode_utf8_acceptRanges), ("io.ErrShortWrite", laid_io_ErrShortWrite), ("unicode/utf8.first", laid_unicode_utf8_first)] }
def FnNoTagsSaid : Prop := fnNoTagsRow.holds Tryd.pinned (OpenSpec.ofChange fnNoTagsSpec)

/-- ITS FALSE NEIGHBOUR: 'it returns false'. Refute it at one input. -/
def fnNoTagsWrong : ChangeSpec := { name := "fnNoTags", fn := fun _ => fun
  | [d1, d2] => { results := [.lit (.bool false)], args := [d1, d2] }
  | _ => none }
def FnNoTagsWrongFalsely : Prop := fnNoTagsRow.holds Tryd.pinned (OpenSpec.ofChange fnNoTagsWrong)

/-- 'laws.FnNothingLost': WHATEVER THE INPUT: true; the input reads as it did. -/
def fnNothingLostSpec : ChangeSpec := { name := "fnNothingLost", fn := fun _ => fun
  | [d1, d2] => { results := [.lit (.bool true)], args := [d1, d2] }
  | _ => none }
def fnNothingLostRow : OpenClaim := { program := "ytinkhkhacaehkaadoor", sum := "a174d24fe735c108f4b57b70bc775f4abc862cfc56f2710ffc3d8ab9938743f8", func := "loop.example/pub-tabcolumns/laws.FnNothingLost", spec := "fnNothingLost", unfollowed := true, recurses := true, named := ["unicode/utf8.first", "unicode/utf8.acceptRanges", "io.ErrShortWrite"], apart := false, laid := [("unicode/utf8.acceptRanges", laid_unicode_utf8_acceptRanges), ("io.ErrShortWrite", laid_io_ErrShortWrite), ("unicode/utf8.first", laid_unicode_utf8_first)] }
def FnNothingLostSaid : Prop := fnNothingLostRow.holds Tryd.pinned (OpenSpec.ofChange fnNothingLostSpec)

/-- ITS FALSE NEIGHBOUR: 'it returns false'. Refute it at one input. -/
def fnNothingLostWrong : ChangeSpec := { name := "fnNothingLost", fn := fun _ => fun
  | [d1, d2] => { results := [.lit (.bool false)], args := [d1, d2] }
  | _ => none }
def FnNothingLostWrongFalsely : Prop := fnNothingLostRow.holds Tryd.pinned (OpenSpec.ofChange fnNothingLostWrong)

/-- 'laws.FnSoftAsHard': WHATEVER THE INPUT: true; the input reads as it did. -/
def fnSoftAsHardSpec : ChangeSpec := { name := "fnSoftAsHard", fn := fun _ => fun
  | [d1, d2] => { results := [.lit (.bool true)], args := [d1, d2] }
  | _ => none }
def fnSoftAsHardRow : OpenClaim := { program := "ytinkhkhacaehkaadoor", sum := "a174d24fe735c108f4b57b70bc775f4abc862cfc56f2710ffc3d8ab9938743f8", func := "loop.example/pub-tabcolumns/laws.FnSoftAsHard", spec := "fnSoftAsHard", unfollowed := true, recurses := true, named := ["unicode/utf8.first", "unicode/utf8.acceptRanges", "io.ErrShortWrite"], apart := false, laid := [("unicode/utf8.acceptRanges", laid_unicode_utf8_acceptRanges), ("io.ErrShortWrite", laid_io_ErrShortWrite), ("unicode/utf8.first", laid_unicode_utf8_first)] }
def FnSoftAsHardSaid : Prop := fnSoftAsHardRow.holds Tryd.pinned (OpenSpec.ofChange fnSoftAsHardSpec)

/-- ITS FALSE NEIGHBOUR: 'it returns false'. Refute it at one input. -/
def fnSoftAsHardWrong : ChangeSpec := { name := "fnSoftAsHard", fn := fun _ => fun
  | [d1, d2] => { results := [.lit (.bool false)], args := [d1, d2] }
  | _ => none }
def FnSoftAsHardWrongFalsely : Prop := fnSoftAsHardRow.holds Tryd.pinned (OpenSpec.ofChange fnSoftAsHardWrong)

/-- 'laws.FnTabsLeft': WHATEVER THE INPUT: true; the input reads as it did. -/
def fnTabsLeftSpec : ChangeSpec := { name := "fnTabsLeft", fn := fun _ => fun
  | [d1, d2] => { results := [.lit (.bool true)], args := [d1, d2] }
  | _ => none }
def fnTabsLeftRow : OpenClaim := { program := "ytinkhkhacaehkaadoor", sum := "a174d24fe735c108f4b57b70bc775f4abc862cfc56f2710ffc3d8ab9938743f8", func := "loop.example/pub-tabcolumns/laws.FnTabsLeft", spec := "fnTabsLeft", unfollowed := true, recurses := true, named := ["unicode/utf8.first", "unicode/utf8.acceptRanges", "io.ErrShortWrite"], apart := false, laid := [("unicode/utf8.acceptRanges", laid_unicode_utf8_acceptRanges), ("io.ErrShortWrite", laid_io_ErrShortWrite), ("unicode/utf8.first", laid_unicode_utf8_first)] }
def FnTabsLeftSaid : Prop := fnTabsLeftRow.holds Tryd.pinned (OpenSpec.ofChange fnTabsLeftSpec)

/-- ITS FALSE NEIGHBOUR: 'it returns false'. Refute it at one input. -/
def fnTabsLeftWrong : ChangeSpec := { name := "fnTabsLeft", fn := fun _ => fun
  | [d1, d2] => { results := [.lit (.bool false)], args := [d1, d2] }
  | _ => none }
def FnTabsLeftWrongFalsely : Prop := fnTabsLeftRow.holds Tryd.pinned (OpenSpec.ofChange fnTabsLeftWrong)

/-- 'laws.FnTabsLost': WHATEVER THE INPUT: true; the input reads as it did. -/
def fnTabsLostSpec : ChangeSpec := { name := "fnTabsLost", fn := fun _ => fun
  | [d1, d2] => { results := [.lit (.bool true)], args := [d1, d2] }
  | _ => none }
def fnTabsLostRow : OpenClaim := { program := "ytinkhkhacaehkaadoor", sum := "a174d24fe735c108f4b57b70bc775f4abc862cfc56f2710ffc3d8ab9938743f8", func := "loop.example/pub-tabcolumns/laws.FnTabsLost", spec := "fnTabsLost", unfollowed := true, recurses := true, named := ["unicode/utf8.first", "unicode/utf8.acceptRanges", "io.ErrShortWrite"], apart := false, laid := [("unicode/utf8.acceptRanges", laid_unicode_utf8_acceptRanges), ("io.ErrShortWrite", laid_io_ErrShortWrite), ("unicode/utf8.first", laid_unicode_utf8_first)] }
def FnTabsLostSaid : Prop := fnTabsLostRow.holds Tryd.pinned (OpenSpec.ofChange fnTabsLostSpec)

/-- ITS FALSE NEIGHBOUR: 'it returns false'. Refute it at one input. -/
def fnTabsLostWrong : ChangeSpec := { name := "fnTabsLost", fn := fun _ => fun
  | [d1, d2] => { results := [.lit (.bool false)], args := [d1, d2] }
  | _ => none }
def FnTabsLostWrongFalsely : Prop := fnTabsLostRow.holds Tryd.pinned (OpenSpec.ofChange fnTabsLostWrong)

/- THE SECOND FORM. 'bulk': how many values and letters a reading holds, each counted each time it is reached (what is shared counts as often as it is met; a slice's spare places count too). A statement '..UptoSaid' is the law's where the arguments, and the package variables that the reading takes, are together of bulk at most 1048576: NARROWER than '..Said'. Prove '..Said' where nothing that the law and all that it calls make is longer than what came in: it says more and counts as full. Else prove '..UptoSaid'. A law counts once. -/
mutual
def uptoBulk {H : Type} : DataW H → Nat
  | .lit (.string bytes) => bytes.length + 1
  | .lit _ => 1
  | .nil => 1
  | .ptr d => uptoBulk d + 1
  | .slice elems spare => uptoBulkAll elems + uptoBulkAll spare + 1
  | .agg parts => uptoBulkAll parts + 1
  | .iface _ d => uptoBulk d + 1
  | .map entries => uptoBulkEntries entries + 1
  | .held _ => 1
def uptoBulkAll {H : Type} : List (DataW H) → Nat
  | [] => 0
  | d :: r => uptoBulk d + uptoBulkAll r
def uptoBulkEntries {H : Type} : List (Lit × DataW H) → Nat
  | [] => 0
  | x :: r => uptoBulkEntry x + uptoBulkEntries r
def uptoBulkEntry {H : Type} : Lit × DataW H → Nat
  | (.string bytes, d) => bytes.length + uptoBulk d + 1
  | (_, d) => uptoBulk d + 1
 end
def uptoSmall : (H : Type) → List (DataW H) → Bool := fun _ ds => decide (uptoBulkAll ds ≤ 1048576)
def OpenSpec.upto (s : _root_.Go.ChangeSpec) : _root_.Go.OpenSpec := { _root_.Go.OpenSpec.ofChange s with cond := some uptoSmall }

/-- 'laws.FnByBytes', WHERE WHAT IT READS IS OF BULK AT MOST 1048576: true; the input reads as it did. -/
def fnByBytesUptoRow : OpenClaim := { program := "ytinkhkhacaehkaadoor", sum := "a174d24fe735c108f4b57b70bc775f4abc862cfc56f2710ffc3d8ab9938743f8", func := "loop.example/pub-tabcolumns/laws.FnByBytes", spec := "fnByBytes", unfollowed := true, recurses := true, named := ["unicode/utf8.first", "unicode/utf8.acceptRanges", "io.ErrShortWrite"], apart := false, laid := [("unicode/utf8.acceptRanges", laid_unicode_utf8_acceptRanges), ("io.ErrShortWrite", laid_io_ErrShortWrite), ("unicode/utf8.first", laid_unicode_utf8_first)], narrowed := true }
def FnByBytesUptoSaid : Prop := fnByBytesUptoRow.holds Tryd.pinned (OpenSpec.upto fnByBytesSpec)

/-- 'laws.FnDiscardHard', WHERE WHAT IT READS IS OF BULK AT MOST 1048576: true; the input reads as it did. -/
def fnDiscardHardUptoRow : OpenClaim := { program := "ytinkhkhacaehkaadoor", sum := "a174d24fe735c108f4b57b70bc775f4abc862cfc56f2710ffc3d8ab9938743f8", func := "loop.example/pub-tabcolumns/laws.FnDiscardHard", spec := "fnDiscardHard", unfollowed := true, recurses := true, named := ["unicode/utf8.first", "unicode/utf8.acceptRanges", "io.ErrShortWrite"], apart := false, laid := [("unicode/utf8.acceptRanges", laid_unicode_utf8_acceptRanges), ("io.ErrShortWrite", laid_io_ErrShortWrite), ("unicode/utf8.first", laid_unicode_utf8_first)], narrowed := true }
def FnDiscardHardUptoSaid : Prop := fnDiscardHardUptoRow.holds Tryd.pinned (OpenSpec.upto fnDiscardHardSpec)

/-- 'laws.FnExactSpaces', WHERE WHAT IT READS IS OF BULK AT MOST 1048576: true; the input reads as it did. -/
def fnExactSpacesUptoRow : OpenClaim := { program := "ytinkhkhacaehkaadoor", sum := "a174d24fe735c108f4b57b70bc775f4abc862cfc56f2710ffc3d8ab9938743f8", func := "loop.example/pub-tabcolumns/laws.FnExactSpaces", spec := "fnExactSpaces", unfollowed := true, recurses := true, named := ["unicode/utf8.first", "unicode/utf8.acceptRanges", "io.ErrShortWrite"], apart := false, laid := [("unicode/utf8.acceptRanges", laid_unicode_utf8_acceptRanges), ("io.ErrShortWrite", laid_io_ErrShortWrite), ("unicode/utf8.first", laid_unicode_utf8_first)], narrowed := true }
def FnExactSpacesUptoSaid : Prop := fnExactSpacesUptoRow.holds Tryd.pinned (OpenSpec.upto fnExactSpacesSpec)

/-- 'laws.FnExactTame', WHERE WHAT IT READS IS OF BULK AT MOST 1048576: true; the input reads as it did. -/
def fnExactTameUptoRow : OpenClaim := { program := "ytinkhkhacaehkaadoor", sum := "a174d24fe735c108f4b57b70bc775f4abc862cfc56f2710ffc3d8ab9938743f8", func := "loop.example/pub-tabcolumns/laws.FnExactTame", spec := "fnExactTame", unfollowed := true, recurses := true, named := ["unicode/utf8.first", "unicode/utf8.acceptRanges", "io.ErrShortWrite"], apart := false, laid := [("unicode/utf8.acceptRanges", laid_unicode_utf8_acceptRanges), ("io.ErrShortWrite", laid_io_ErrShortWrite), ("unicode/utf8.first", laid_unicode_utf8_first)], narrowed := true }
def FnExactTameUptoSaid : Prop := fnExactTameUptoRow.holds Tryd.pinned (OpenSpec.upto fnExactTameSpec)

/-- 'laws.FnExactWrites', WHERE WHAT IT READS IS OF BULK AT MOST 1048576: true; the input reads as it did. -/
def fnExactWritesUptoRow : OpenClaim := { program := "ytinkhkhacaehkaadoor", sum := "a174d24fe735c108f4b57b70bc775f4abc862cfc56f2710ffc3d8ab9938743f8", func := "loop.example/pub-tabcolumns/laws.FnExactWrites", spec := "fnExactWrites", unfollowed := true, recurses := true, named := ["unicode/utf8.first", "unicode/utf8.acceptRanges", "io.ErrShortWrite"], apart := false, laid := [("unicode/utf8.acceptRanges", laid_unicode_utf8_acceptRanges), ("io.ErrShortWrite", laid_io_ErrShortWrite), ("unicode/utf8.first", laid_unicode_utf8_first)], narrowed := true }
def FnExactWritesUptoSaid : Prop := fnExactWritesUptoRow.holds Tryd.pinned (OpenSpec.upto fnExactWritesSpec)

/-- 'laws.FnIndent', WHERE WHAT IT READS IS OF BULK AT MOST 1048576: true; the input reads as it did. -/
def fnIndentUptoRow : OpenClaim := { program := "ytinkhkhacaehkaadoor", sum := "a174d24fe735c108f4b57b70bc775f4abc862cfc56f2710ffc3d8ab9938743f8", func := "loop.example/pub-tabcolumns/laws.FnIndent", spec := "fnIndent", unfollowed := true, recurses := true, named := ["unicode/utf8.first", "unicode/utf8.acceptRanges", "io.ErrShortWrite"], apart := false, laid := [("unicode/utf8.acceptRanges", laid_unicode_utf8_acceptRanges), ("io.ErrShortWrite", laid_io_ErrShortWrite), ("unicode/utf8.first", laid_unicode_utf8_first)], narrowed := true }
def FnIndentUptoSaid : Prop := fnIndentUptoRow.holds Tryd.pinned (OpenSpec.upto fnIndentSpec)

/-- 'laws.FnNoEscapes', WHERE WHAT IT READS IS OF BULK AT MOST 1048576: true; the input reads as it did. -/
def fnNoEscapesUptoRow : OpenClaim := { program := "ytinkhkhacaehkaadoor", sum := "a174d24fe735c108f4b57b70bc775f4abc862cfc56f2710ffc3d8ab9938743f8", func := "loop.example/pub-tabcolumns/laws.FnNoEscapes", spec := "fnNoEscapes", unfollowed := true, recurses := true, named := ["unicode/utf8.first", "unicode/utf8.acceptRanges", "io.ErrShortWrite"], apart := false, laid := [("unicode/utf8.acceptRanges", laid_unicode_utf8_acceptRanges), ("io.ErrShortWrite", laid_io_ErrShortWrite), ("unicode/utf8.first", laid_unicode_utf8_first)], narrowed := true }
def FnNoEscapesUptoSaid : Prop := fnNoEscapesUptoRow.holds Tryd.pinned (OpenSpec.upto fnNoEscapesSpec)

/-- 'laws.FnNoTags', WHERE WHAT IT READS IS OF BULK AT MOST 1048576: true; the input reads as it did. -/
def fnNoTagsUptoRow : OpenClaim := { program := "ytinkhkhacaehkaadoor", sum := "a174d24fe735c108f4b57b70bc775f4abc862cfc56f2710ffc3d8ab9938743f8", func := "loop.example/pub-tabcolumns/laws.FnNoTags", spec := "fnNoTags", unfollowed := true, recurses := true, named := ["unicode/utf8.first", "unicode/utf8.acceptRanges", "io.ErrShortWrite"], apart := false, laid := [("unicode/utf8.acceptRanges", laid_unicode_utf8_acceptRanges), ("io.ErrShortWrite", laid_io_ErrShortWrite), ("unicode/utf8.first", laid_unicode_utf8_first)], narrowed := true }
def FnNoTagsUptoSaid : Prop := fnNoTagsUptoRow.holds Tryd.pinned (OpenSpec.upto fnNoTagsSpec)

/-- 'laws.FnNothingLost', WHERE WHAT IT READS IS OF BULK AT MOST 1048576: true; the input reads as it did. -/
def fnNothingLostUptoRow : OpenClaim := { program := "ytinkhkhacaehkaadoor", sum := "a174d24fe735c108f4b57b70bc775f4abc862cfc56f2710ffc3d8ab9938743f8", func := "loop.example/pub-tabcolumns/laws.FnNothingLost", spec := "fnNothingLost", unfollowed := true, recurses := true, named := ["unicode/utf8.first", "unicode/utf8.acceptRanges", "io.ErrShortWrite"], apart := false, laid := [("unicode/utf8.acceptRanges", laid_unicode_utf8_acceptRanges), ("io.ErrShortWrite", laid_io_ErrShortWrite), ("unicode/utf8.first", laid_unicode_utf8_first)], narrowed := true }
def FnNothingLostUptoSaid : Prop := fnNothingLostUptoRow.holds Tryd.pinned (OpenSpec.upto fnNothingLostSpec)

/-- 'laws.FnSoftAsHard', WHERE WHAT IT READS IS OF BULK AT MOST 1048576: true; the input reads as it did. -/
def fnSoftAsHardUptoRow : OpenClaim := { program := "ytinkhkhacaehkaadoor", sum := "a174d24fe735c108f4b57b70bc775f4abc862cfc56f2710ffc3d8ab9938743f8", func := "loop.example/pub-tabcolumns/laws.FnSoftAsHard", spec := "fnSoftAsHard", unfollowed := true, recurses := true, named := ["unicode/utf8.first", "unicode/utf8.acceptRanges", "io.ErrShortWrite"], apart := false, laid := [("unicode/utf8.acceptRanges", laid_unicode_utf8_acceptRanges), ("io.ErrShortWrite", laid_io_ErrShortWrite), ("unicode/utf8.first", laid_unicode_utf8_first)], narrowed := true }
def FnSoftAsHardUptoSaid : Prop := fnSoftAsHardUptoRow.holds Tryd.pinned (OpenSpec.upto fnSoftAsHardSpec)

/-- 'laws.FnTabsLeft', WHERE WHAT IT READS IS OF BULK AT MOST 1048576: true; the input reads as it did. -/
def fnTabsLeftUptoRow : OpenClaim := { program := "ytinkhkhacaehkaadoor", sum := "a174d24fe735c108f4b57b70bc775f4abc862cfc56f2710ffc3d8ab9938743f8", func := "loop.example/pub-tabcolumns/laws.FnTabsLeft", spec := "fnTabsLeft", unfollowed := true, recurses := true, named := ["unicode/utf8.first", "unicode/utf8.acceptRanges", "io.ErrShortWrite"], apart := false, laid := [("unicode/utf8.acceptRanges", laid_unicode_utf8_acceptRanges), ("io.ErrShortWrite", laid_io_ErrShortWrite), ("unicode/utf8.first", laid_unicode_utf8_first)], narrowed := true }
def FnTabsLeftUptoSaid : Prop := fnTabsLeftUptoRow.holds Tryd.pinned (OpenSpec.upto fnTabsLeftSpec)

/-- 'laws.FnTabsLost', WHERE WHAT IT READS IS OF BULK AT MOST 1048576: true; the input reads as it did. -/
def fnTabsLostUptoRow : OpenClaim := { program := "ytinkhkhacaehkaadoor", sum := "a174d24fe735c108f4b57b70bc775f4abc862cfc56f2710ffc3d8ab9938743f8", func := "loop.example/pub-tabcolumns/laws.FnTabsLost", spec := "fnTabsLost", unfollowed := true, recurses := true, named := ["unicode/utf8.first", "unicode/utf8.acceptRanges", "io.ErrShortWrite"], apart := false, laid := [("unicode/utf8.acceptRanges", laid_unicode_utf8_acceptRanges), ("io.ErrShortWrite", laid_io_ErrShortWrite), ("unicode/utf8.first", laid_unicode_utf8_first)], narrowed := true }
def FnTabsLostUptoSaid : Prop := fnTabsLostUptoRow.holds Tryd.pinned (OpenSpec.upto fnTabsLostSpec)

end Rows
end Go.Proofs.YtinkhkhacaehkaaDoor

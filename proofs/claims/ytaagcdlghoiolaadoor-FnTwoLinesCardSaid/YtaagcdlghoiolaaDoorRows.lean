/-
  NARROWER THAN 'FOR EVERY INPUT', by the rows' own cells (each row's printed sentence says how): FnTwoLines: laid · FnExactAgain: laid · FnAlignedStays: laid · FnExactFull: ifaces, laid · FnOneLine: laid · FnStripped: laid.
  DERIVED. THE GIVEN ROWS OF THIS SEAT. 6 by the template 'for every input the law returns true; each argument reads behind the call as it read before'; 0 by the template 'total and deterministic' (their statements: YtaagcdlghoiolaaDoorTotals.lean).
  GIVEN WITH THE SEED: the statements are not yours to turn. If you find one false, say at which input.
  Laid BY PROGRAM, IN A SANDBOX (cutbox-rows.mjs): the forced cells as the released guide's own fill.sh prints them over the translation 45fa78a449c15088… (all of the seat's roots in one cut). By AI agents, Wed Nov 11 2026. No macro, syntax, notation, axiom, sorry.
-/
import Derived.Test.YtaagcdlghoiolaaDoorChecked
import GoSem.PinnedTables
import GoSem.Claim
import GoSem.ClaimJoined
import GoSem.ClaimMapViews
import Derived.JoinedTies
import Derived.KernelRfl
namespace Go.Proofs.YtaagcdlghoiolaaDoor
/- THE CELL 'sum', in the pinned program and in every row, IS THE sha256 OF THE DUMP (.gsa) THAT YtaagcdlghoiolaaDoorProg.lean LOADS. Nothing in Lean hashes anything: it is a label: what it is worth is what the hold of that sum in a sandbox is worth. -/
noncomputable def Tryd.pinned : Pinned := { name := "ytaagcdlghoiolaadoor", sum := "45fa78a449c15088a6fede31a63d32698cfd0e72a07d0275aff88a35338fac03", checked := Tryd.checked }
namespace Rows
def none {H : Type} : Left H := { results := [], args := [] }

/- WHAT THE LISTED PACKAGE-LEVEL VARIABLES READ AS WHEN THE CALL BEGINS. Each datum BY PROGRAM (the guide's laid-datum.mjs) off the statement by which the dump's own 'gosem.cut.vars' lays the variable. In a bare row this is a premise. The card (YtaagcdlghoiolaaDoorCards.lean) ties it to the program's text. -/
def laid_unicode_utf8_acceptRanges {H : Type} : DataW H := .agg [.agg [.lit (.int .u8 128), .lit (.int .u8 191)], .agg [.lit (.int .u8 160), .lit (.int .u8 191)], .agg [.lit (.int .u8 128), .lit (.int .u8 159)], .agg [.lit (.int .u8 144), .lit (.int .u8 191)], .agg [.lit (.int .u8 128), .lit (.int .u8 143)], .agg [.lit (.int .u8 0), .lit (.int .u8 0)], .agg [.lit (.int .u8 0), .lit (.int .u8 0)], .agg [.lit (.int .u8 0), .lit (.int .u8 0)], .agg [.lit (.int .u8 0), .lit (.int .u8 0)], .agg [.lit (.int .u8 0), .lit (.int .u8 0)], .agg [.lit (.int .u8 0), .lit (.int .u8 0)], .agg [.lit (.int .u8 0), .lit (.int .u8 0)], .agg [.lit (.int .u8 0), .lit (.int .u8 0)], .agg [.lit (.int .u8 0), .lit (.int .u8 0)], .agg [.lit (.int .u8 0), .lit (.int .u8 0)], .agg [.lit (.int .u8 0), .lit (.int .u8 0)]]
def laid_io_ErrShortWrite {H : Type} : DataW H := .iface "*errors.errorString" (.ptr (.agg [.lit (.string [115, 104, 111, 114, 116, 32, 119, 114, 105, 116, 101])]))
/-- One of Go's own tables, pinned by name: the form's constant. -/
def laid_unicode_utf8_first : DataW Unit := Go.Pinned.utf8First
def laid_loop_example_pub_tabcolumns_impl_errFull {H : Type} : DataW H := .iface "*errors.errorString" (.ptr (.agg [.lit (.string [102, 117, 108, 108])]))

/-- 'laws.FnTwoLines': WHATEVER THE INPUT: true; the input reads as it did. -/
def fnTwoLinesSpec : ChangeSpec := { name := "fnTwoLines", fn := fun _ => fun
  | [d1, d2, d3] => { results := [.lit (.bool true)], args := [d1, d2, d3] }
  | _ => none }
def fnTwoLinesRow : OpenClaim := { program := "ytaagcdlghoiolaadoor", sum := "45fa78a449c15088a6fede31a63d32698cfd0e72a07d0275aff88a35338fac03", func := "loop.example/pub-tabcolumns/laws.FnTwoLines", spec := "fnTwoLines", unfollowed := true, recurses := true, named := ["unicode/utf8.first", "unicode/utf8.acceptRanges", "io.ErrShortWrite"], apart := false, laid := [("unicode/utf8.acceptRanges", laid_unicode_utf8_acceptRanges), ("io.ErrShortWrite", laid_io_ErrShortWrite), ("unicode/utf8.first", laid_unicode_utf8_first)] }
def FnTwoLinesSaid : Prop := fnTwoLinesRow.holds Tryd.pinned (OpenSpec.ofChange fnTwoLinesSpec)

/-- ITS FALSE NEIGHBOUR: 'it returns false'. Refute it at one input. -/
def fnTwoLinesWrong : ChangeSpec := { name := "fnTwoLines", fn := fun _ => fun
  | [d1, d2, d3] => { results := [.lit (.bool false)], args := [d1, d2, d3] }
  | _ => none }
def FnTwoLinesWrongFalsely : Prop := fnTwoLinesRow.holds Tryd.pinned (OpenSpec.ofChange fnTwoLinesWrong)

/-- 'laws.FnExactAgain': WHATEVER THE INPUT: true; the input reads as it did. -/
def fnExactAgainSpec : ChangeSpec := { name := "fnExactAgain", fn := fun _ => fun
  | [d1, d2, d3, d4] => { results := [.lit (.bool true)], args := [d1, d2, d3, d4] }
  | _ => none }
def fnExactAgainRow : OpenClaim := { program := "ytaagcdlghoiolaadoor", sum := "45fa78a449c15088a6fede31a63d32698cfd0e72a07d0275aff88a35338fac03", func := "loop.example/pub-tabcolumns/laws.FnExactAgain", spec := "fnExactAgain", unfollowed := true, recurses := true, named := ["unicode/utf8.first", "unicode/utf8.acceptRanges", "io.ErrShortWrite"], apart := false, laid := [("unicode/utf8.acceptRanges", laid_unicode_utf8_acceptRanges), ("io.ErrShortWrite", laid_io_ErrShortWrite), ("unicode/utf8.first", laid_unicode_utf8_first)] }
def FnExactAgainSaid : Prop := fnExactAgainRow.holds Tryd.pinned (OpenSpec.ofChange fnExactAgainSpec)

/-- ITS FALSE NEIGHBOUR: 'it returns false'. Refute it at one input. -/
def fnExactAgainWrong : ChangeSpec := { name := "fnExactAgain", fn := fun _ => fun
  | [d1, d2, d3, d4] => { results := [.lit (.bool false)], args := [d1, d2, d3, d4] }
  | _ => none }
def FnExactAgainWrongFalsely : Prop := fnExactAgainRow.holds Tryd.pinned (OpenSpec.ofChange fnExactAgainWrong)

/-- 'laws.FnAlignedStays': WHATEVER THE INPUT: true; the input reads as it did. -/
def fnAlignedStaysSpec : ChangeSpec := { name := "fnAlignedStays", fn := fun _ => fun
  | [d1, d2] => { results := [.lit (.bool true)], args := [d1, d2] }
  | _ => none }
def fnAlignedStaysRow : OpenClaim := { program := "ytaagcdlghoiolaadoor", sum := "45fa78a449c15088a6fede31a63d32698cfd0e72a07d0275aff88a35338fac03", func := "loop.example/pub-tabcolumns/laws.FnAlignedStays", spec := "fnAlignedStays", unfollowed := true, recurses := true, named := ["unicode/utf8.first", "unicode/utf8.acceptRanges", "io.ErrShortWrite"], apart := false, laid := [("unicode/utf8.acceptRanges", laid_unicode_utf8_acceptRanges), ("io.ErrShortWrite", laid_io_ErrShortWrite), ("unicode/utf8.first", laid_unicode_utf8_first)] }
def FnAlignedStaysSaid : Prop := fnAlignedStaysRow.holds Tryd.pinned (OpenSpec.ofChange fnAlignedStaysSpec)

/-- ITS FALSE NEIGHBOUR: 'it returns false'. Refute it at one input. -/
def fnAlignedStaysWrong : ChangeSpec := { name := "fnAlignedStays", fn := fun _ => fun
  | [d1, d2] => { results := [.lit (.bool false)], args := [d1, d2] }
  | _ => none }
def FnAlignedStaysWrongFalsely : Prop := fnAlignedStaysRow.holds Tryd.pinned (OpenSpec.ofChange fnAlignedStaysWrong)

/-- 'laws.FnExactFull': WHATEVER THE INPUT: true; the input reads as it did. -/
def fnExactFullSpec : ChangeSpec := { name := "fnExactFull", vars := ["loop.example/pub-tabcolumns/impl.errFull"], fn := fun _ => fun
  | [d1, d2, d3, g1] => { results := [.lit (.bool true)], args := [d1, d2, d3], vars := [g1] }
  | _ => none }
def fnExactFullRow : OpenClaim := { program := "ytaagcdlghoiolaadoor", sum := "45fa78a449c15088a6fede31a63d32698cfd0e72a07d0275aff88a35338fac03", func := "loop.example/pub-tabcolumns/laws.FnExactFull", spec := "fnExactFull", inPlace := ["internal/reflectlite.TypeOf"], unfollowed := true, recurses := true, named := ["unicode/utf8.first", "unicode/utf8.acceptRanges", "loop.example/pub-tabcolumns/impl.errFull", "io.ErrShortWrite"], ifaces := true, apart := false, laid := [("unicode/utf8.acceptRanges", laid_unicode_utf8_acceptRanges), ("io.ErrShortWrite", laid_io_ErrShortWrite), ("loop.example/pub-tabcolumns/impl.errFull", laid_loop_example_pub_tabcolumns_impl_errFull), ("unicode/utf8.first", laid_unicode_utf8_first)] }
def FnExactFullSaid : Prop := fnExactFullRow.holds Tryd.pinned (OpenSpec.ofChange fnExactFullSpec)

/-- ITS FALSE NEIGHBOUR: 'it returns false'. Refute it at one input. -/
def fnExactFullWrong : ChangeSpec := { name := "fnExactFull", vars := ["loop.example/pub-tabcolumns/impl.errFull"], fn := fun _ => fun
  | [d1, d2, d3, g1] => { results := [.lit (.bool false)], args := [d1, d2, d3], vars := [g1] }
  | _ => none }
def FnExactFullWrongFalsely : Prop := fnExactFullRow.holds Tryd.pinned (OpenSpec.ofChange fnExactFullWrong)

/-- 'laws.FnOneLine': WHATEVER THE INPUT: true; the input reads as it did. -/
def fnOneLineSpec : ChangeSpec := { name := "fnOneLine", fn := fun _ => fun
  | [d1, d2, d3] => { results := [.lit (.bool true)], args := [d1, d2, d3] }
  | _ => none }
def fnOneLineRow : OpenClaim := { program := "ytaagcdlghoiolaadoor", sum := "45fa78a449c15088a6fede31a63d32698cfd0e72a07d0275aff88a35338fac03", func := "loop.example/pub-tabcolumns/laws.FnOneLine", spec := "fnOneLine", unfollowed := true, recurses := true, named := ["unicode/utf8.first", "unicode/utf8.acceptRanges", "io.ErrShortWrite"], apart := false, laid := [("unicode/utf8.acceptRanges", laid_unicode_utf8_acceptRanges), ("io.ErrShortWrite", laid_io_ErrShortWrite), ("unicode/utf8.first", laid_unicode_utf8_first)] }
def FnOneLineSaid : Prop := fnOneLineRow.holds Tryd.pinned (OpenSpec.ofChange fnOneLineSpec)

/-- ITS FALSE NEIGHBOUR: 'it returns false'. Refute it at one input. -/
def fnOneLineWrong : ChangeSpec := { name := "fnOneLine", fn := fun _ => fun
  | [d1, d2, d3] => { results := [.lit (.bool false)], args := [d1, d2, d3] }
  | _ => none }
def FnOneLineWrongFalsely : Prop := fnOneLineRow.holds Tryd.pinned (OpenSpec.ofChange fnOneLineWrong)

/-- 'laws.FnStripped': WHATEVER THE INPUT: true; the input reads as it did. -/
def fnStrippedSpec : ChangeSpec := { name := "fnStripped", fn := fun _ => fun
  | [d1, d2] => { results := [.lit (.bool true)], args := [d1, d2] }
  | _ => none }
def fnStrippedRow : OpenClaim := { program := "ytaagcdlghoiolaadoor", sum := "45fa78a449c15088a6fede31a63d32698cfd0e72a07d0275aff88a35338fac03", func := "loop.example/pub-tabcolumns/laws.FnStripped", spec := "fnStripped", unfollowed := true, recurses := true, named := ["unicode/utf8.first", "unicode/utf8.acceptRanges", "io.ErrShortWrite"], apart := false, laid := [("unicode/utf8.acceptRanges", laid_unicode_utf8_acceptRanges), ("io.ErrShortWrite", laid_io_ErrShortWrite), ("unicode/utf8.first", laid_unicode_utf8_first)] }
def FnStrippedSaid : Prop := fnStrippedRow.holds Tryd.pinned (OpenSpec.ofChange fnStrippedSpec)

/-- ITS FALSE NEIGHBOUR: 'it returns false'. Refute it at one input. -/
def fnStrippedWrong : ChangeSpec := { name := "fnStripped", fn := fun _ => fun
  | [d1, d2] => { results := [.lit (.bool false)], args := [d1, d2] }
  | _ => none }
def FnStrippedWrongFalsely : Prop := fnStrippedRow.holds Tryd.pinned (OpenSpec.ofChange fnStrippedWrong)

/- THE SECOND FORM. 'bulk': how many values and letters a reading holds, each counted each time it is reached (what is shared counts as often as it is met; a slice's spare places count too). A statement '..UptoSaid' is the law's where the arguments, and the package variables that the reading takes, are together of bulk at most 1048576: NARROWER than '..Said'. Prove '..Said' where nothing that the law and all that it calls make is longer than what came in: it says more and counts as full. Else prove '..UptoSaid'. A law counts once. -/
mutual
def uptoBulk {H : Type} : DataW H → Nat
  | .lit (.string bytes) => bytes.length + 1
  | .lit _ => 1
  | .nil => 1
  | .ptr d => uptoBulk d + 1
  | .slice elems spare => uptoBulkAll elems + uptoBulkAll spare + 1
  | .agg parts => uptoBulkAll parts + 1
  | .iface _ d => uptoBulk d + 1
  | .map entries => uptoBulkEntries entries + 1
  | .held _ => 1
def uptoBulkAll {H : Type} : List (DataW H) → Nat
  | [] => 0
  | d :: r => uptoBulk d + uptoBulkAll r
def uptoBulkEntries {H : Type} : List (Lit × DataW H) → Nat
  | [] => 0
  | x :: r => uptoBulkEntry x + uptoBulkEntries r
def uptoBulkEntry {H : Type} : Lit × DataW H → Nat
  | (.string bytes, d) => bytes.length + uptoBulk d + 1
  | (_, d) => uptoBulk d + 1
 end
def uptoSmall : (H : Type) → List (DataW H) → Bool := fun _ ds => decide (uptoBulkAll ds ≤ 1048576)
def OpenSpec.upto (s : _root_.Go.ChangeSpec) : _root_.Go.OpenSpec := { _root_.Go.OpenSpec.ofChange s with cond := some uptoSmall }

/-- 'laws.FnTwoLines', WHERE WHAT IT READS IS OF BULK AT MOST 1048576: true; the input reads as it did. -/
def fnTwoLinesUptoRow : OpenClaim := { program := "ytaagcdlghoiolaadoor", sum := "45fa78a449c15088a6fede31a63d32698cfd0e72a07d0275aff88a35338fac03", func := "loop.example/pub-tabcolumns/laws.FnTwoLines", spec := "fnTwoLines", unfollowed := true, recurses := true, named := ["unicode/utf8.first", "unicode/utf8.acceptRanges", "io.ErrShortWrite"], apart := false, laid := [("unicode/utf8.acceptRanges", laid_unicode_utf8_acceptRanges), ("io.ErrShortWrite", laid_io_ErrShortWrite), ("unicode/utf8.first", laid_unicode_utf8_first)], narrowed := true }
def FnTwoLinesUptoSaid : Prop := fnTwoLinesUptoRow.holds Tryd.pinned (OpenSpec.upto fnTwoLinesSpec)

/-- 'laws.FnExactAgain', WHERE WHAT IT READS IS OF BULK AT MOST 1048576: true; the input reads as it did. -/
def fnExactAgainUptoRow : OpenClaim := { program := "ytaagcdlghoiolaadoor", sum := "45fa78a449c15088a6fede31a63d32698cfd0e72a07d0275aff88a35338fac03", func := "loop.example/pub-tabcolumns/laws.FnExactAgain", spec := "fnExactAgain", unfollowed := true, recurses := true, named := ["unicode/utf8.first", "unicode/utf8.acceptRanges", "io.ErrShortWrite"], apart := false, laid := [("unicode/utf8.acceptRanges", laid_unicode_utf8_acceptRanges), ("io.ErrShortWrite", laid_io_ErrShortWrite), ("unicode/utf8.first", laid_unicode_utf8_first)], narrowed := true }
def FnExactAgainUptoSaid : Prop := fnExactAgainUptoRow.holds Tryd.pinned (OpenSpec.upto fnExactAgainSpec)

/-- 'laws.FnAlignedStays', WHERE WHAT IT READS IS OF BULK AT MOST 1048576: true; the input reads as it did. -/
def fnAlignedStaysUptoRow : OpenClaim := { program := "ytaagcdlghoiolaadoor", sum := "45fa78a449c15088a6fede31a63d32698cfd0e72a07d0275aff88a35338fac03", func := "loop.example/pub-tabcolumns/laws.FnAlignedStays", spec := "fnAlignedStays", unfollowed := true, recurses := true, named := ["unicode/utf8.first", "unicode/utf8.acceptRanges", "io.ErrShortWrite"], apart := false, laid := [("unicode/utf8.acceptRanges", laid_unicode_utf8_acceptRanges), ("io.ErrShortWrite", laid_io_ErrShortWrite), ("unicode/utf8.first", laid_unicode_utf8_first)], narrowed := true }
def FnAlignedStaysUptoSaid : Prop := fnAlignedStaysUptoRow.holds Tryd.pinned (OpenSpec.upto fnAlignedStaysSpec)

/-- 'laws.FnExactFull', WHERE WHAT IT READS IS OF BULK AT MOST 1048576: true; the input reads as it did. -/
def fnExactFullUptoRow : OpenClaim := { program := "ytaagcdlghoiolaadoor", sum := "45fa78a449c15088a6fede31a63d32698cfd0e72a07d0275aff88a35338fac03", func := "loop.example/pub-tabcolumns/laws.FnExactFull", spec := "fnExactFull", inPlace := ["internal/reflectlite.TypeOf"], unfollowed := true, recurses := true, named := ["unicode/utf8.first", "unicode/utf8.acceptRanges", "loop.example/pub-tabcolumns/impl.errFull", "io.ErrShortWrite"], ifaces := true, apart := false, laid := [("unicode/utf8.acceptRanges", laid_unicode_utf8_acceptRanges), ("io.ErrShortWrite", laid_io_ErrShortWrite), ("loop.example/pub-tabcolumns/impl.errFull", laid_loop_example_pub_tabcolumns_impl_errFull), ("unicode/utf8.first", laid_unicode_utf8_first)], narrowed := true }
def FnExactFullUptoSaid : Prop := fnExactFullUptoRow.holds Tryd.pinned (OpenSpec.upto fnExactFullSpec)

/-- 'laws.FnOneLine', WHERE WHAT IT READS IS OF BULK AT MOST 1048576: true; the input reads as it did. -/
def fnOneLineUptoRow : OpenClaim := { program := "ytaagcdlghoiolaadoor", sum := "45fa78a449c15088a6fede31a63d32698cfd0e72a07d0275aff88a35338fac03", func := "loop.example/pub-tabcolumns/laws.FnOneLine", spec := "fnOneLine", unfollowed := true, recurses := true, named := ["unicode/utf8.first", "unicode/utf8.acceptRanges", "io.ErrShortWrite"], apart := false, laid := [("unicode/utf8.acceptRanges", laid_unicode_utf8_acceptRanges), ("io.ErrShortWrite", laid_io_ErrShortWrite), ("unicode/utf8.first", laid_unicode_utf8_first)], narrowed := true }
def FnOneLineUptoSaid : Prop := fnOneLineUptoRow.holds Tryd.pinned (OpenSpec.upto fnOneLineSpec)

/-- 'laws.FnStripped', WHERE WHAT IT READS IS OF BULK AT MOST 1048576: true; the input reads as it did. -/
def fnStrippedUptoRow : OpenClaim := { program := "ytaagcdlghoiolaadoor", sum := "45fa78a449c15088a6fede31a63d32698cfd0e72a07d0275aff88a35338fac03", func := "loop.example/pub-tabcolumns/laws.FnStripped", spec := "fnStripped", unfollowed := true, recurses := true, named := ["unicode/utf8.first", "unicode/utf8.acceptRanges", "io.ErrShortWrite"], apart := false, laid := [("unicode/utf8.acceptRanges", laid_unicode_utf8_acceptRanges), ("io.ErrShortWrite", laid_io_ErrShortWrite), ("unicode/utf8.first", laid_unicode_utf8_first)], narrowed := true }
def FnStrippedUptoSaid : Prop := fnStrippedUptoRow.holds Tryd.pinned (OpenSpec.upto fnStrippedSpec)

end Rows
end Go.Proofs.YtaagcdlghoiolaaDoor

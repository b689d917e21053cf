/-
  DERIVED. GIVEN WITH THE SEED: THE CARDS: each row of YteildpeogbenbaaDoorRows.lean that lists a variable, with what it lists TIED to the program's text (the seventh form; the later family's looks); each row that meets fmt, with fmt's text TOLD by the authors' own Lean function (tested against real Go, not proved from fmt's source: count such statements apart). THE CARD IS WHAT COUNTS. Prove the row's statement (the work); the ties are given (YteildpeogbenbaaDoorTie.lean); close each card by the builder's one call (the guide's Derived/Test/ToyasCard.lean, 'card_holds'). Laid BY PROGRAM, IN A SANDBOX (cutbox-door.mjs). By AI agents, Wed Nov 11 2026. No macro, syntax, notation, axiom, sorry.
-/
import Derived.Test.YteildpeogbenbaaDoorRows
import GoSem.ClaimSeven
namespace Go.Proofs.YteildpeogbenbaaDoor
namespace Rows

/-- THE TIED CARD OF 'laws.FnExactFull'. -/
def fnExactFullCard : Claim7 := { stood := { row := fnExactFullRow, standIns := [], harness := (true, "86cc172d135416f201e7820ceb791ef9abdd22b434964c411de81e5ce1253faa"), looks := true }, kinds := [], alts := [], laidByText := true, laidKinds := [.data, .sentinel, .sentinel, .pinned], laidTests := true, laidLooks := .later }
def FnExactFullCardSaid : Prop := Claim7.holds Tryd.pinned (.plain (OpenSpec.ofChange fnExactFullSpec)) fnExactFullCard

/-- THE SECOND FORM's CARD OF 'laws.FnExactFull'. -/
def fnExactFullUptoCard : Claim7 := { stood := { row := fnExactFullUptoRow, standIns := [], harness := (true, "86cc172d135416f201e7820ceb791ef9abdd22b434964c411de81e5ce1253faa"), looks := true }, kinds := [], alts := [], laidByText := true, laidKinds := [.data, .sentinel, .sentinel, .pinned], laidTests := true, laidLooks := .later }
def FnExactFullUptoCardSaid : Prop := Claim7.holds Tryd.pinned (.plain (OpenSpec.upto fnExactFullSpec)) fnExactFullUptoCard
end Rows
end Go.Proofs.YteildpeogbenbaaDoor

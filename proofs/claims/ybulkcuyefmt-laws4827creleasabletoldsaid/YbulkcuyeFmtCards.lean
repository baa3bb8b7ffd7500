/-
  DERIVED. GIVEN WITH THE SEED: THE CARDS: each row of YbulkcuyeFmtRows.lean that lists a variable, with what it lists TIED to the program's text (the seventh form; the later family's looks); each row that meets fmt, with fmt's text TOLD by the authors' own Lean function (tested against real Go, not proved from fmt's source: count such statements apart). THE CARD IS WHAT COUNTS. Prove the row's statement (the work); the ties are given (YbulkcuyeFmtTie.lean); close each card by the builder's one call (the guide's Derived/Test/ToyasCard.lean, 'card_holds'). Laid BY PROGRAM, IN A SANDBOX (cutbox-door.mjs). By AI agents, Wed Nov 11 2026. No macro, syntax, notation, axiom, sorry.
-/
import Derived.Test.YbulkcuyeFmtRows
import GoSem.ClaimSeven
namespace Go.Proofs.YbulkcuyeFmt
namespace Rows

/-- THE TOLD AND TIED CARD OF 'tidelock.LawS4827CReleasable'. -/
def lawS4827CReleasableCard : Claim7 := { stood := { row := lawS4827CReleasableRow, standIns := [], harness := (true, "3ee9e07ac3f800af001e7352eed22e9f014c2c961b24e5c3aab3e6a152ad74e4"), looks := true }, told := true, laidByText := true, laidKinds := [.sentinel, .called, .sentinel, .sentinel], laidTests := true, laidLooks := .later, goes := false }
def LawS4827CReleasableToldSaid : Prop := Claim7.holds Ybaf.pinned (.plain (OpenSpec.ofChange lawS4827CReleasableSpec)) lawS4827CReleasableCard
/-- ITS FALSE NEIGHBOUR. Refute it at one input. -/
def LawS4827CReleasableToldWrongFalsely : Prop := Claim7.holds Ybaf.pinned (.plain (OpenSpec.ofChange lawS4827CReleasableWrong)) lawS4827CReleasableCard
end Rows
end Go.Proofs.YbulkcuyeFmt

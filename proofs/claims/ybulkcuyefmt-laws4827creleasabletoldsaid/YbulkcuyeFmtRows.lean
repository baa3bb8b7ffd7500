/-
  NARROWER THAN 'FOR EVERY INPUT', by the rows' own cells (each row's printed sentence says how): LawS4827CReleasable: ifaces, laid.
  DERIVED. THE GIVEN ROWS OF THIS SEAT. 1 by the template 'for every input the law returns true; each argument reads behind the call as it read before'; 0 by the template 'total and deterministic' (their statements: YbulkcuyeFmtTotals.lean).
  GIVEN WITH THE SEED: the statements are not yours to turn. If you find one false, say at which input.
  Laid BY PROGRAM, IN A SANDBOX (cutbox-rows.mjs): the forced cells as the released guide's own fill.sh prints them over the translation 38f42fcd646cb905… (all of the seat's roots in one cut). By AI agents, Wed Nov 11 2026. No macro, syntax, notation, axiom, sorry.
-/
import Derived.Test.YbulkcuyeFmtChecked
import GoSem.Claim
import GoSem.ClaimJoined
import GoSem.ClaimMapViews
import Derived.JoinedTies
import Derived.KernelRfl
namespace Go.Proofs.YbulkcuyeFmt
/- THE CELL 'sum', in the pinned program and in every row, IS THE sha256 OF THE DUMP (.gsa) THAT YbulkcuyeFmtProg.lean LOADS. Nothing in Lean hashes anything: it is a label: what it is worth is what the hold of that sum in a sandbox is worth. -/
noncomputable def Ybaf.pinned : Pinned := { name := "ybulkcuyefmt", sum := "38f42fcd646cb905b662fd1affd608b9b882b3245e6176903973ca784ca1e5f0", checked := Ybaf.checked }
namespace Rows
def none {H : Type} : Left H := { results := [], args := [] }

/- WHAT THE LISTED PACKAGE-LEVEL VARIABLES READ AS WHEN THE CALL BEGINS. Each datum BY PROGRAM (the guide's laid-datum.mjs) off the statement by which the dump's own 'gosem.cut.vars' lays the variable. In a bare row this is a premise. The card (YbulkcuyeFmtCards.lean) ties it to the program's text. -/
def laid_example_com_tidelock_tidelock_errRigorous {H : Type} : DataW H := .iface "*errors.errorString" (.ptr (.agg [.lit (.string [116, 105, 100, 101, 108, 111, 99, 107, 58, 32, 114, 105, 103, 111, 114, 111, 117, 115, 32, 116, 119, 111, 45, 112, 104, 97, 115, 101, 32, 108, 111, 99, 107, 105, 110, 103, 32, 107, 101, 101, 112, 115, 32, 101, 118, 101, 114, 121, 32, 108, 111, 99, 107, 32, 117, 110, 116, 105, 108, 32, 116, 104, 101, 32, 116, 114, 97, 110, 115, 97, 99, 116, 105, 111, 110, 32, 101, 110, 100, 115])]))
def laid_example_com_tidelock_tidelock_ErrAborted {H : Type} : DataW H := .iface "*errors.errorString" (.ptr (.agg [.lit (.string [116, 105, 100, 101, 108, 111, 99, 107, 58, 32, 116, 114, 97, 110, 115, 97, 99, 116, 105, 111, 110, 32, 97, 98, 111, 114, 116, 101, 100])]))
def laid_example_com_tidelock_tidelock_errCommitted {H : Type} : DataW H := .iface "*errors.errorString" (.ptr (.agg [.lit (.string [116, 105, 100, 101, 108, 111, 99, 107, 58, 32, 116, 114, 97, 110, 115, 97, 99, 116, 105, 111, 110, 32, 97, 108, 114, 101, 97, 100, 121, 32, 99, 111, 109, 109, 105, 116, 116, 101, 100])]))
def laid_example_com_tidelock_tidelock_errWaiting {H : Type} : DataW H := .iface "*errors.errorString" (.ptr (.agg [.lit (.string [116, 105, 100, 101, 108, 111, 99, 107, 58, 32, 116, 114, 97, 110, 115, 97, 99, 116, 105, 111, 110, 32, 105, 115, 32, 119, 97, 105, 116, 105, 110, 103, 32, 102, 111, 114, 32, 97, 32, 108, 111, 99, 107])]))

/-- 'tidelock.LawS4827CReleasable': WHATEVER THE INPUT: true; the input reads as it did. -/
def lawS4827CReleasableSpec : ChangeSpec := { name := "lawS4827CReleasable", vars := ["example.com/tidelock/tidelock.errCommitted", "example.com/tidelock/tidelock.ErrAborted", "example.com/tidelock/tidelock.errWaiting", "example.com/tidelock/tidelock.errRigorous"], fn := fun _ => fun
  | [d1, d2, d3, d4, d5, g1, g2, g3, g4] => { results := [.lit (.bool true)], args := [d1, d2, d3, d4, d5], vars := [g1, g2, g3, g4] }
  | _ => none }
def lawS4827CReleasableRow : OpenClaim := { program := "ybulkcuyefmt", sum := "38f42fcd646cb905b662fd1affd608b9b882b3245e6176903973ca784ca1e5f0", func := "example.com/tidelock/tidelock.LawS4827CReleasable", spec := "lawS4827CReleasable", stops := ["fmt.errorf"], inPlace := ["fmt.errorf"], unfollowed := true, recurses := true, named := ["example.com/tidelock/tidelock.errCommitted", "example.com/tidelock/tidelock.ErrAborted", "example.com/tidelock/tidelock.errWaiting", "example.com/tidelock/tidelock.errRigorous"], ifaces := true, apart := false, laid := [("example.com/tidelock/tidelock.errRigorous", laid_example_com_tidelock_tidelock_errRigorous), ("example.com/tidelock/tidelock.ErrAborted", laid_example_com_tidelock_tidelock_ErrAborted), ("example.com/tidelock/tidelock.errCommitted", laid_example_com_tidelock_tidelock_errCommitted), ("example.com/tidelock/tidelock.errWaiting", laid_example_com_tidelock_tidelock_errWaiting)] }
/-- NO THEOREM (fmt's text is open here; it may be false): for the released tool's asking of the row's closed facts alone. THE STATEMENT IS 'LawS4827CReleasableToldSaid' (YbulkcuyeFmtCards.lean). -/
def LawS4827CReleasableFormAsk : Prop := lawS4827CReleasableRow.holds Ybaf.pinned (OpenSpec.ofChange lawS4827CReleasableSpec)

/-- ITS FALSE NEIGHBOUR: 'it returns false'. Refute it at one input. -/
def lawS4827CReleasableWrong : ChangeSpec := { name := "lawS4827CReleasable", vars := ["example.com/tidelock/tidelock.errCommitted", "example.com/tidelock/tidelock.ErrAborted", "example.com/tidelock/tidelock.errWaiting", "example.com/tidelock/tidelock.errRigorous"], fn := fun _ => fun
  | [d1, d2, d3, d4, d5, g1, g2, g3, g4] => { results := [.lit (.bool false)], args := [d1, d2, d3, d4, d5], vars := [g1, g2, g3, g4] }
  | _ => none }
def LawS4827CReleasableWrongFormAsk : Prop := lawS4827CReleasableRow.holds Ybaf.pinned (OpenSpec.ofChange lawS4827CReleasableWrong)

end Rows
end Go.Proofs.YbulkcuyeFmt

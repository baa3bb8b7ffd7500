/-
  No cell of these rows narrows 'for every input' (looked for: loops, veiled, ifaces, maps, wideKeys, modest, calm, conditions, laid).
  DERIVED. THE GIVEN ROWS OF THIS SEAT. 4 by the template 'for every input the law returns true; each argument reads behind the call as it read before'; 0 by the template 'total and deterministic' (their statements: YbulkcuyeTotals.lean).
  GIVEN WITH THE SEED: the statements are not yours to turn. If you find one false, say at which input.
  Laid BY PROGRAM, IN A SANDBOX (cutbox-rows.mjs): the forced cells as the released guide's own fill.sh prints them over the translation baa38d337d7c9dbb… (all of the seat's roots in one cut). By AI agents, Wed Nov 11 2026. No macro, syntax, notation, axiom, sorry.
-/
import Derived.Test.YbulkcuyeChecked
import GoSem.Claim
import GoSem.ClaimJoined
import GoSem.ClaimMapViews
import Derived.JoinedTies
import Derived.KernelRfl
namespace Go.Proofs.Ybulkcuye
/- THE CELL 'sum', in the pinned program and in every row, IS THE sha256 OF THE DUMP (.gsa) THAT YbulkcuyeProg.lean LOADS. Nothing in Lean hashes anything: it is a label: what it is worth is what the hold of that sum in a sandbox is worth. -/
noncomputable def Yba.pinned : Pinned := { name := "ybulkcuye", sum := "baa38d337d7c9dbbdbbb78953b4d156ef3a0f14c48ff2bfa24d1c3deb2b1fdd3", checked := Yba.checked }
namespace Rows
def none {H : Type} : Left H := { results := [], args := [] }

/-- 'history.LawS4827ACycle': WHATEVER THE INPUT: true; the input reads as it did. -/
def lawS4827ACycleSpec : ChangeSpec := { name := "lawS4827ACycle", fn := fun _ => fun
  | [d1, d2, d3] => { results := [.lit (.bool true)], args := [d1, d2, d3] }
  | _ => none }
def lawS4827ACycleRow : OpenClaim := { program := "ybulkcuye", sum := "baa38d337d7c9dbbdbbb78953b4d156ef3a0f14c48ff2bfa24d1c3deb2b1fdd3", func := "example.com/tidelock/tidelock/history.LawS4827ACycle", spec := "lawS4827ACycle", unfollowed := true, recurses := true, apart := false }
def LawS4827ACycleSaid : Prop := lawS4827ACycleRow.holds Yba.pinned (OpenSpec.ofChange lawS4827ACycleSpec)

/-- ITS FALSE NEIGHBOUR: 'it returns false'. Refute it at one input. -/
def lawS4827ACycleWrong : ChangeSpec := { name := "lawS4827ACycle", fn := fun _ => fun
  | [d1, d2, d3] => { results := [.lit (.bool false)], args := [d1, d2, d3] }
  | _ => none }
def LawS4827ACycleWrongFalsely : Prop := lawS4827ACycleRow.holds Yba.pinned (OpenSpec.ofChange lawS4827ACycleWrong)

/-- 'history.LawS4827ASerial': WHATEVER THE INPUT: true; the input reads as it did. -/
def lawS4827ASerialSpec : ChangeSpec := { name := "lawS4827ASerial", fn := fun _ => fun
  | [d1, d2, d3] => { results := [.lit (.bool true)], args := [d1, d2, d3] }
  | _ => none }
def lawS4827ASerialRow : OpenClaim := { program := "ybulkcuye", sum := "baa38d337d7c9dbbdbbb78953b4d156ef3a0f14c48ff2bfa24d1c3deb2b1fdd3", func := "example.com/tidelock/tidelock/history.LawS4827ASerial", spec := "lawS4827ASerial", unfollowed := true, recurses := true, apart := false }
def LawS4827ASerialSaid : Prop := lawS4827ASerialRow.holds Yba.pinned (OpenSpec.ofChange lawS4827ASerialSpec)

/-- ITS FALSE NEIGHBOUR: 'it returns false'. Refute it at one input. -/
def lawS4827ASerialWrong : ChangeSpec := { name := "lawS4827ASerial", fn := fun _ => fun
  | [d1, d2, d3] => { results := [.lit (.bool false)], args := [d1, d2, d3] }
  | _ => none }
def LawS4827ASerialWrongFalsely : Prop := lawS4827ASerialRow.holds Yba.pinned (OpenSpec.ofChange lawS4827ASerialWrong)

/-- 'tidelock.LawS4827BKeep': WHATEVER THE INPUT: true; the input reads as it did. -/
def lawS4827BKeepSpec : ChangeSpec := { name := "lawS4827BKeep", fn := fun _ => fun
  | [d1, d2, d3, d4] => { results := [.lit (.bool true)], args := [d1, d2, d3, d4] }
  | _ => none }
def lawS4827BKeepRow : OpenClaim := { program := "ybulkcuye", sum := "baa38d337d7c9dbbdbbb78953b4d156ef3a0f14c48ff2bfa24d1c3deb2b1fdd3", func := "example.com/tidelock/tidelock.LawS4827BKeep", spec := "lawS4827BKeep", apart := false }
def LawS4827BKeepSaid : Prop := lawS4827BKeepRow.holds Yba.pinned (OpenSpec.ofChange lawS4827BKeepSpec)

/-- ITS FALSE NEIGHBOUR: 'it returns false'. Refute it at one input. -/
def lawS4827BKeepWrong : ChangeSpec := { name := "lawS4827BKeep", fn := fun _ => fun
  | [d1, d2, d3, d4] => { results := [.lit (.bool false)], args := [d1, d2, d3, d4] }
  | _ => none }
def LawS4827BKeepWrongFalsely : Prop := lawS4827BKeepRow.holds Yba.pinned (OpenSpec.ofChange lawS4827BKeepWrong)

/-- 'tidelock.LawS4827BFind': WHATEVER THE INPUT: true; the input reads as it did. -/
def lawS4827BFindSpec : ChangeSpec := { name := "lawS4827BFind", fn := fun _ => fun
  | [d1, d2, d3, d4] => { results := [.lit (.bool true)], args := [d1, d2, d3, d4] }
  | _ => none }
def lawS4827BFindRow : OpenClaim := { program := "ybulkcuye", sum := "baa38d337d7c9dbbdbbb78953b4d156ef3a0f14c48ff2bfa24d1c3deb2b1fdd3", func := "example.com/tidelock/tidelock.LawS4827BFind", spec := "lawS4827BFind", apart := false }
def LawS4827BFindSaid : Prop := lawS4827BFindRow.holds Yba.pinned (OpenSpec.ofChange lawS4827BFindSpec)

/-- ITS FALSE NEIGHBOUR: 'it returns false'. Refute it at one input. -/
def lawS4827BFindWrong : ChangeSpec := { name := "lawS4827BFind", fn := fun _ => fun
  | [d1, d2, d3, d4] => { results := [.lit (.bool false)], args := [d1, d2, d3, d4] }
  | _ => none }
def LawS4827BFindWrongFalsely : Prop := lawS4827BFindRow.holds Yba.pinned (OpenSpec.ofChange lawS4827BFindWrong)

end Rows
end Go.Proofs.Ybulkcuye

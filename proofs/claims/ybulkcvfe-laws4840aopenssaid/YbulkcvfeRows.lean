/-
  No cell of these rows narrows 'for every input' (looked for: loops, veiled, ifaces, maps, wideKeys, modest, calm, conditions, laid).
  DERIVED. THE GIVEN ROWS OF THIS SEAT. 2 by the template 'for every input the law returns true; each argument reads behind the call as it read before'; 0 by the template 'total and deterministic' (their statements: YbulkcvfeTotals.lean).
  GIVEN WITH THE SEED: the statements are not yours to turn. If you find one false, say at which input.
  Laid BY PROGRAM, IN A SANDBOX (cutbox-rows.mjs): the forced cells as the released guide's own fill.sh prints them over the translation 09467390821faf46… (all of the seat's roots in one cut). By AI agents, Wed Nov 11 2026. No macro, syntax, notation, axiom, sorry.
-/
import Derived.Test.YbulkcvfeChecked
import GoSem.Claim
import GoSem.ClaimJoined
import GoSem.ClaimMapViews
import Derived.JoinedTies
import Derived.KernelRfl
namespace Go.Proofs.Ybulkcvfe
/- THE CELL 'sum', in the pinned program and in every row, IS THE sha256 OF THE DUMP (.gsa) THAT YbulkcvfeProg.lean LOADS. Nothing in Lean hashes anything: it is a label: what it is worth is what the hold of that sum in a sandbox is worth. -/
noncomputable def Yba.pinned : Pinned := { name := "ybulkcvfe", sum := "09467390821faf46f52b4bb6604ed2977a971b8699ecc9b00e519ecc08385b0f", checked := Yba.checked }
namespace Rows
def none {H : Type} : Left H := { results := [], args := [] }

/-- 'authtree.LawS4840AOpens': WHATEVER THE INPUT: true; the input reads as it did. -/
def lawS4840AOpensSpec : ChangeSpec := { name := "lawS4840AOpens", fn := fun _ => fun
  | [d1, d2, d3] => { results := [.lit (.bool true)], args := [d1, d2, d3] }
  | _ => none }
def lawS4840AOpensRow : OpenClaim := { program := "ybulkcvfe", sum := "09467390821faf46f52b4bb6604ed2977a971b8699ecc9b00e519ecc08385b0f", func := "example.com/holdproof/holdproof/authtree.LawS4840AOpens", spec := "lawS4840AOpens", apart := false }
def LawS4840AOpensSaid : Prop := lawS4840AOpensRow.holds Yba.pinned (OpenSpec.ofChange lawS4840AOpensSpec)

/-- ITS FALSE NEIGHBOUR: 'it returns false'. Refute it at one input. -/
def lawS4840AOpensWrong : ChangeSpec := { name := "lawS4840AOpens", fn := fun _ => fun
  | [d1, d2, d3] => { results := [.lit (.bool false)], args := [d1, d2, d3] }
  | _ => none }
def LawS4840AOpensWrongFalsely : Prop := lawS4840AOpensRow.holds Yba.pinned (OpenSpec.ofChange lawS4840AOpensWrong)

/-- 'authtree.LawS4840ADepth': WHATEVER THE INPUT: true; the input reads as it did. -/
def lawS4840ADepthSpec : ChangeSpec := { name := "lawS4840ADepth", fn := fun _ => fun
  | [d] => { results := [.lit (.bool true)], args := [d] }
  | _ => none }
def lawS4840ADepthRow : OpenClaim := { program := "ybulkcvfe", sum := "09467390821faf46f52b4bb6604ed2977a971b8699ecc9b00e519ecc08385b0f", func := "example.com/holdproof/holdproof/authtree.LawS4840ADepth", spec := "lawS4840ADepth", apart := false }
def LawS4840ADepthSaid : Prop := lawS4840ADepthRow.holds Yba.pinned (OpenSpec.ofChange lawS4840ADepthSpec)

/-- ITS FALSE NEIGHBOUR: 'it returns false'. Refute it at one input. -/
def lawS4840ADepthWrong : ChangeSpec := { name := "lawS4840ADepth", fn := fun _ => fun
  | [d] => { results := [.lit (.bool false)], args := [d] }
  | _ => none }
def LawS4840ADepthWrongFalsely : Prop := lawS4840ADepthRow.holds Yba.pinned (OpenSpec.ofChange lawS4840ADepthWrong)

end Rows
end Go.Proofs.Ybulkcvfe

/-
  No cell of these rows narrows 'for every input' (looked for: loops, veiled, ifaces, maps, wideKeys, modest, calm, conditions, laid).
  DERIVED. THE GIVEN ROWS OF THIS SEAT. 1 by the template 'for every input the law returns true; each argument reads behind the call as it read before'; 0 by the template 'total and deterministic' (their statements: YbulkcvkaTotals.lean).
  GIVEN WITH THE SEED: the statements are not yours to turn. If you find one false, say at which input.
  Laid BY PROGRAM, IN A SANDBOX (cutbox-rows.mjs): the forced cells as the released guide's own fill.sh prints them over the translation 02462fa41b337b99… (all of the seat's roots in one cut). By AI agents, Wed Nov 11 2026. No macro, syntax, notation, axiom, sorry.
-/
import Derived.Test.YbulkcvkaChecked
import GoSem.Claim
import GoSem.ClaimJoined
import GoSem.ClaimMapViews
import Derived.JoinedTies
import Derived.KernelRfl
namespace Go.Proofs.Ybulkcvka
/- THE CELL 'sum', in the pinned program and in every row, IS THE sha256 OF THE DUMP (.gsa) THAT YbulkcvkaProg.lean LOADS. Nothing in Lean hashes anything: it is a label: what it is worth is what the hold of that sum in a sandbox is worth. -/
noncomputable def Yba.pinned : Pinned := { name := "ybulkcvka", sum := "02462fa41b337b9971d85e293978fbe6bc0116c8913eb64ca40e53406a70a74c", checked := Yba.checked }
namespace Rows
def none {H : Type} : Left H := { results := [], args := [] }

/-- 'terrace.LawS4849AClone': WHATEVER THE INPUT: true; the input reads as it did. -/
def lawS4849ACloneSpec : ChangeSpec := { name := "lawS4849AClone", fn := fun _ => fun
  | [d1, d2, d3, d4, d5, d6] => { results := [.lit (.bool true)], args := [d1, d2, d3, d4, d5, d6] }
  | _ => none }
def lawS4849ACloneRow : OpenClaim := { program := "ybulkcvka", sum := "02462fa41b337b9971d85e293978fbe6bc0116c8913eb64ca40e53406a70a74c", func := "example.com/terrace/terrace.LawS4849AClone", spec := "lawS4849AClone", apart := false }
def LawS4849ACloneSaid : Prop := lawS4849ACloneRow.holds Yba.pinned (OpenSpec.ofChange lawS4849ACloneSpec)

/-- ITS FALSE NEIGHBOUR: 'it returns false'. Refute it at one input. -/
def lawS4849ACloneWrong : ChangeSpec := { name := "lawS4849AClone", fn := fun _ => fun
  | [d1, d2, d3, d4, d5, d6] => { results := [.lit (.bool false)], args := [d1, d2, d3, d4, d5, d6] }
  | _ => none }
def LawS4849ACloneWrongFalsely : Prop := lawS4849ACloneRow.holds Yba.pinned (OpenSpec.ofChange lawS4849ACloneWrong)

end Rows
end Go.Proofs.Ybulkcvka

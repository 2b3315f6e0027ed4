/-
  No cell of these rows narrows 'for every input' (looked for: loops, veiled, ifaces, maps, wideKeys, modest, calm, conditions, laid).
  DERIVED. THE GIVEN ROWS OF THIS SEAT. 2 by the template 'for every input the law returns true; each argument reads behind the call as it read before'; 0 by the template 'total and deterministic' (their statements: YbulkaiacTotals.lean).
  GIVEN WITH THE SEED: the statements are not yours to turn. If you find one false, say at which input.
  Laid BY PROGRAM, IN A SANDBOX (cutbox-rows.mjs): the forced cells as the released guide's own fill.sh prints them over the translation 1491167f025421a3… (all of the seat's roots in one cut). By AI agents, Wed Nov 11 2026. No macro, syntax, notation, axiom, sorry.
-/
import Derived.Test.YbulkaiacChecked
import GoSem.Claim
import GoSem.ClaimJoined
import GoSem.ClaimMapViews
import Derived.JoinedTies
import Derived.KernelRfl
namespace Go.Proofs.Ybulkaiac
/- THE CELL 'sum', in the pinned program and in every row, IS THE sha256 OF THE DUMP (.gsa) THAT YbulkaiacProg.lean LOADS. Nothing in Lean hashes anything: it is a label: what it is worth is what the hold of that sum in a sandbox is worth. -/
noncomputable def Yba.pinned : Pinned := { name := "ybulkaiac", sum := "1491167f025421a3a096246b8ec35a67734703dcc134614a2f40f662f4595891", checked := Yba.checked }
namespace Rows
def none {H : Type} : Left H := { results := [], args := [] }

/-- 'value.LawS1692BLeaf': WHATEVER THE INPUT: true; the input reads as it did. -/
def lawS1692BLeafSpec : ChangeSpec := { name := "lawS1692BLeaf", fn := fun _ => fun
  | [d] => { results := [.lit (.bool true)], args := [d] }
  | _ => none }
def lawS1692BLeafRow : OpenClaim := { program := "ybulkaiac", sum := "1491167f025421a3a096246b8ec35a67734703dcc134614a2f40f662f4595891", func := "example.com/decree/decree/pkg/value.LawS1692BLeaf", spec := "lawS1692BLeaf", apart := false }
def LawS1692BLeafSaid : Prop := lawS1692BLeafRow.holds Yba.pinned (OpenSpec.ofChange lawS1692BLeafSpec)

/-- ITS FALSE NEIGHBOUR: 'it returns false'. Refute it at one input. -/
def lawS1692BLeafWrong : ChangeSpec := { name := "lawS1692BLeaf", fn := fun _ => fun
  | [d] => { results := [.lit (.bool false)], args := [d] }
  | _ => none }
def LawS1692BLeafWrongFalsely : Prop := lawS1692BLeafRow.holds Yba.pinned (OpenSpec.ofChange lawS1692BLeafWrong)

/-- 'value.LawS1692BChildren': WHATEVER THE INPUT: true; the input reads as it did. -/
def lawS1692BChildrenSpec : ChangeSpec := { name := "lawS1692BChildren", fn := fun _ => fun
  | [d1, d2] => { results := [.lit (.bool true)], args := [d1, d2] }
  | _ => none }
def lawS1692BChildrenRow : OpenClaim := { program := "ybulkaiac", sum := "1491167f025421a3a096246b8ec35a67734703dcc134614a2f40f662f4595891", func := "example.com/decree/decree/pkg/value.LawS1692BChildren", spec := "lawS1692BChildren", apart := false }
def LawS1692BChildrenSaid : Prop := lawS1692BChildrenRow.holds Yba.pinned (OpenSpec.ofChange lawS1692BChildrenSpec)

/-- ITS FALSE NEIGHBOUR: 'it returns false'. Refute it at one input. -/
def lawS1692BChildrenWrong : ChangeSpec := { name := "lawS1692BChildren", fn := fun _ => fun
  | [d1, d2] => { results := [.lit (.bool false)], args := [d1, d2] }
  | _ => none }
def LawS1692BChildrenWrongFalsely : Prop := lawS1692BChildrenRow.holds Yba.pinned (OpenSpec.ofChange lawS1692BChildrenWrong)

end Rows
end Go.Proofs.Ybulkaiac

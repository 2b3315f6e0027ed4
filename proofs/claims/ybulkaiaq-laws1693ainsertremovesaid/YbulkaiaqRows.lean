/-
  No cell of these rows narrows 'for every input' (looked for: loops, veiled, ifaces, maps, wideKeys, modest, calm, conditions, laid).
  DERIVED. THE GIVEN ROWS OF THIS SEAT. 2 by the template 'for every input the law returns true; each argument reads behind the call as it read before'; 0 by the template 'total and deterministic' (their statements: YbulkaiaqTotals.lean).
  GIVEN WITH THE SEED: the statements are not yours to turn. If you find one false, say at which input.
  Laid BY PROGRAM, IN A SANDBOX (cutbox-rows.mjs): the forced cells as the released guide's own fill.sh prints them over the translation e8c4909ce7da6933… (all of the seat's roots in one cut). By AI agents, Wed Nov 11 2026. No macro, syntax, notation, axiom, sorry.
-/
import Derived.Test.YbulkaiaqChecked
import GoSem.Claim
import GoSem.ClaimJoined
import GoSem.ClaimMapViews
import Derived.JoinedTies
import Derived.KernelRfl
namespace Go.Proofs.Ybulkaiaq
/- THE CELL 'sum', in the pinned program and in every row, IS THE sha256 OF THE DUMP (.gsa) THAT YbulkaiaqProg.lean LOADS. Nothing in Lean hashes anything: it is a label: what it is worth is what the hold of that sum in a sandbox is worth. -/
noncomputable def Yba.pinned : Pinned := { name := "ybulkaiaq", sum := "e8c4909ce7da6933b40a297b0378e6e9bded5345c127d7afafbcad3abcd4657a", checked := Yba.checked }
namespace Rows
def none {H : Type} : Left H := { results := [], args := [] }

/-- 'store.LawS1693ARemove': WHATEVER THE INPUT: true; the input reads as it did. -/
def lawS1693ARemoveSpec : ChangeSpec := { name := "lawS1693ARemove", fn := fun _ => fun
  | [d1, d2] => { results := [.lit (.bool true)], args := [d1, d2] }
  | _ => none }
def lawS1693ARemoveRow : OpenClaim := { program := "ybulkaiaq", sum := "e8c4909ce7da6933b40a297b0378e6e9bded5345c127d7afafbcad3abcd4657a", func := "example.com/stackloom/stackloom/store.LawS1693ARemove", spec := "lawS1693ARemove", unfollowed := true, recurses := true, apart := false }
def LawS1693ARemoveSaid : Prop := lawS1693ARemoveRow.holds Yba.pinned (OpenSpec.ofChange lawS1693ARemoveSpec)

/-- ITS FALSE NEIGHBOUR: 'it returns false'. Refute it at one input. -/
def lawS1693ARemoveWrong : ChangeSpec := { name := "lawS1693ARemove", fn := fun _ => fun
  | [d1, d2] => { results := [.lit (.bool false)], args := [d1, d2] }
  | _ => none }
def LawS1693ARemoveWrongFalsely : Prop := lawS1693ARemoveRow.holds Yba.pinned (OpenSpec.ofChange lawS1693ARemoveWrong)

/-- 'store.LawS1693AInsertRemove': WHATEVER THE INPUT: true; the input reads as it did. -/
def lawS1693AInsertRemoveSpec : ChangeSpec := { name := "lawS1693AInsertRemove", fn := fun _ => fun
  | [d1, d2] => { results := [.lit (.bool true)], args := [d1, d2] }
  | _ => none }
def lawS1693AInsertRemoveRow : OpenClaim := { program := "ybulkaiaq", sum := "e8c4909ce7da6933b40a297b0378e6e9bded5345c127d7afafbcad3abcd4657a", func := "example.com/stackloom/stackloom/store.LawS1693AInsertRemove", spec := "lawS1693AInsertRemove", unfollowed := true, recurses := true, apart := false }
def LawS1693AInsertRemoveSaid : Prop := lawS1693AInsertRemoveRow.holds Yba.pinned (OpenSpec.ofChange lawS1693AInsertRemoveSpec)

/-- ITS FALSE NEIGHBOUR: 'it returns false'. Refute it at one input. -/
def lawS1693AInsertRemoveWrong : ChangeSpec := { name := "lawS1693AInsertRemove", fn := fun _ => fun
  | [d1, d2] => { results := [.lit (.bool false)], args := [d1, d2] }
  | _ => none }
def LawS1693AInsertRemoveWrongFalsely : Prop := lawS1693AInsertRemoveRow.holds Yba.pinned (OpenSpec.ofChange lawS1693AInsertRemoveWrong)

end Rows
end Go.Proofs.Ybulkaiaq

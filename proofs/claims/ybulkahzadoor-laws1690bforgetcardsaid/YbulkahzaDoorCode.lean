/-
  Pieces of the law's code, taken out of the translation.
-/
import Derived.Test.YbulkahzaDoorAft
namespace Go.Proofs.YbulkahzaDoor
open Go.RowKit Go.Maps

/-- The block of this number. -/
def findBlock (k : Nat) : Code → Option Code
  | .block j c => if j == k then some (.block j c) else findBlock k c
  | .seq a b => match findBlock k a with
    | some c => some c
    | none => findBlock k b
  | .loop c => findBlock k c
  | .scope c => findBlock k c
  | .cond _ a b => match findBlock k a with
    | some c => some c
    | none => findBlock k b
  | _ => none
/-- The 'if' on this slot. -/
def findIf (k : Nat) : Code → Option Code
  | .block _ c => findIf k c
  | .seq a b => match findIf k a with
    | some c => some c
    | none => findIf k b
  | .loop c => findIf k c
  | .scope c => findIf k c
  | .cond (.tmp j) a b => if j == k then some (.cond (.tmp j) a b) else match findIf k a with
    | some c => some c
    | none => findIf k b
  | .cond _ a b => match findIf k a with
    | some c => some c
    | none => findIf k b
  | _ => none
noncomputable def blk (k : Nat) : Code := (Ybad.f4.body.bind (findBlock k)).getD .skip
noncomputable def iff (k : Nat) : Code := (Ybad.f4.body.bind (findIf k)).getD .skip
end Go.Proofs.YbulkahzaDoor

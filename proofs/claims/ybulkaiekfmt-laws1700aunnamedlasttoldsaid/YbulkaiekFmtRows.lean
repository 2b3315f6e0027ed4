/-
  NARROWER THAN 'FOR EVERY INPUT', by the rows' own cells (each row's printed sentence says how): LawS1700AUnnamedLast: maps · LawS1700AMapIrrelevant: maps.
  DERIVED. THE GIVEN ROWS OF THIS SEAT. 2 by the template 'for every input the law returns true; each argument reads behind the call as it read before'; 0 by the template 'total and deterministic' (their statements: YbulkaiekFmtTotals.lean).
  GIVEN WITH THE SEED: the statements are not yours to turn. If you find one false, say at which input.
  Laid BY PROGRAM, IN A SANDBOX (cutbox-rows.mjs): the forced cells as the released guide's own fill.sh prints them over the translation 8cd518b37652648c… (all of the seat's roots in one cut). By AI agents, Wed Nov 11 2026. No macro, syntax, notation, axiom, sorry.
-/
import Derived.Test.YbulkaiekFmtChecked
import GoSem.Claim
import GoSem.ClaimJoined
import GoSem.ClaimMapViews
import Derived.JoinedTies
import Derived.KernelRfl
namespace Go.Proofs.YbulkaiekFmt
/- THE CELL 'sum', in the pinned program and in every row, IS THE sha256 OF THE DUMP (.gsa) THAT YbulkaiekFmtProg.lean LOADS. Nothing in Lean hashes anything: it is a label: what it is worth is what the hold of that sum in a sandbox is worth. -/
noncomputable def Ybaf.pinned : Pinned := { name := "ybulkaiekfmt", sum := "8cd518b37652648c7c79731effe8d5d3621f8ca9e0f31a527876187d91e0c5c0", checked := Ybaf.checked }
namespace Rows
def none {H : Type} : Left H := { results := [], args := [] }

/-- 'room.LawS1700AUnnamedLast': WHATEVER THE INPUT: true; the input reads as it did. -/
def lawS1700AUnnamedLastSpec : ChangeSpec := { name := "lawS1700AUnnamedLast", fn := fun _ => fun
  | [d1, d2] => { results := [.lit (.bool true)], args := [d1, d2] }
  | _ => none }
def lawS1700AUnnamedLastRow : OpenClaim := { program := "ybulkaiekfmt", sum := "8cd518b37652648c7c79731effe8d5d3621f8ca9e0f31a527876187d91e0c5c0", func := "example.com/murmurhall/murmurhall/pkg/room.LawS1700AUnnamedLast", spec := "lawS1700AUnnamedLast", stops := ["fmt.errorf"], inPlace := ["fmt.errorf"], maps := true, apart := false }
/-- NO THEOREM (fmt's text is open here; it may be false): for the released tool's asking of the row's closed facts alone. THE STATEMENT IS 'LawS1700AUnnamedLastToldSaid' (YbulkaiekFmtCards.lean). -/
def LawS1700AUnnamedLastFormAsk : Prop := lawS1700AUnnamedLastRow.holds Ybaf.pinned (OpenSpec.ofChange lawS1700AUnnamedLastSpec)

/-- ITS FALSE NEIGHBOUR: 'it returns false'. Refute it at one input. -/
def lawS1700AUnnamedLastWrong : ChangeSpec := { name := "lawS1700AUnnamedLast", fn := fun _ => fun
  | [d1, d2] => { results := [.lit (.bool false)], args := [d1, d2] }
  | _ => none }
def LawS1700AUnnamedLastWrongFormAsk : Prop := lawS1700AUnnamedLastRow.holds Ybaf.pinned (OpenSpec.ofChange lawS1700AUnnamedLastWrong)

/-- 'room.LawS1700AMapIrrelevant': WHATEVER THE INPUT: true; the input reads as it did. -/
def lawS1700AMapIrrelevantSpec : ChangeSpec := { name := "lawS1700AMapIrrelevant", fn := fun _ => fun
  | [d1, d2] => { results := [.lit (.bool true)], args := [d1, d2] }
  | _ => none }
def lawS1700AMapIrrelevantRow : OpenClaim := { program := "ybulkaiekfmt", sum := "8cd518b37652648c7c79731effe8d5d3621f8ca9e0f31a527876187d91e0c5c0", func := "example.com/murmurhall/murmurhall/pkg/room.LawS1700AMapIrrelevant", spec := "lawS1700AMapIrrelevant", stops := ["fmt.errorf"], inPlace := ["fmt.errorf"], maps := true, apart := false }
/-- NO THEOREM (fmt's text is open here; it may be false): for the released tool's asking of the row's closed facts alone. THE STATEMENT IS 'LawS1700AMapIrrelevantToldSaid' (YbulkaiekFmtCards.lean). -/
def LawS1700AMapIrrelevantFormAsk : Prop := lawS1700AMapIrrelevantRow.holds Ybaf.pinned (OpenSpec.ofChange lawS1700AMapIrrelevantSpec)

/-- ITS FALSE NEIGHBOUR: 'it returns false'. Refute it at one input. -/
def lawS1700AMapIrrelevantWrong : ChangeSpec := { name := "lawS1700AMapIrrelevant", fn := fun _ => fun
  | [d1, d2] => { results := [.lit (.bool false)], args := [d1, d2] }
  | _ => none }
def LawS1700AMapIrrelevantWrongFormAsk : Prop := lawS1700AMapIrrelevantRow.holds Ybaf.pinned (OpenSpec.ofChange lawS1700AMapIrrelevantWrong)

end Rows
end Go.Proofs.YbulkaiekFmt

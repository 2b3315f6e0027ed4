/-
  DERIVED. GIVEN WITH THE SEED: THE CARDS: each row of YbulkaiekFmtRows.lean that lists a variable, with what it lists TIED to the program's text (the seventh form; the later family's looks); each row that meets fmt, with fmt's text TOLD by the authors' own Lean function (tested against real Go, not proved from fmt's source: count such statements apart). THE CARD IS WHAT COUNTS. Prove the row's statement (the work); the ties are given (YbulkaiekFmtTie.lean); close each card by the builder's one call (the guide's Derived/Test/ToyasCard.lean, 'card_holds'). Laid BY PROGRAM, IN A SANDBOX (cutbox-door.mjs). By AI agents, Wed Nov 11 2026. No macro, syntax, notation, axiom, sorry.
-/
import Derived.Test.YbulkaiekFmtRows
import GoSem.ClaimSeven
namespace Go.Proofs.YbulkaiekFmt
namespace Rows

/-- THE TOLD CARD OF 'room.LawS1700AUnnamedLast'. -/
def lawS1700AUnnamedLastCard : Claim7 := { stood := { row := lawS1700AUnnamedLastRow, standIns := [], harness := (true, "47a5e0b56b600527a66ee4267bd87903e8afb684ae0fce293e214a586ba4b36e"), looks := false }, told := true, goes := false }
def LawS1700AUnnamedLastToldSaid : Prop := Claim7.holds Ybaf.pinned (.plain (OpenSpec.ofChange lawS1700AUnnamedLastSpec)) lawS1700AUnnamedLastCard
/-- ITS FALSE NEIGHBOUR. Refute it at one input. -/
def LawS1700AUnnamedLastToldWrongFalsely : Prop := Claim7.holds Ybaf.pinned (.plain (OpenSpec.ofChange lawS1700AUnnamedLastWrong)) lawS1700AUnnamedLastCard

/-- THE TOLD CARD OF 'room.LawS1700AMapIrrelevant'. -/
def lawS1700AMapIrrelevantCard : Claim7 := { stood := { row := lawS1700AMapIrrelevantRow, standIns := [], harness := (true, "47a5e0b56b600527a66ee4267bd87903e8afb684ae0fce293e214a586ba4b36e"), looks := false }, told := true, goes := false }
def LawS1700AMapIrrelevantToldSaid : Prop := Claim7.holds Ybaf.pinned (.plain (OpenSpec.ofChange lawS1700AMapIrrelevantSpec)) lawS1700AMapIrrelevantCard
/-- ITS FALSE NEIGHBOUR. Refute it at one input. -/
def LawS1700AMapIrrelevantToldWrongFalsely : Prop := Claim7.holds Ybaf.pinned (.plain (OpenSpec.ofChange lawS1700AMapIrrelevantWrong)) lawS1700AMapIrrelevantCard
end Rows
end Go.Proofs.YbulkaiekFmt

/-
  DERIVED. GIVEN WITH THE SEED: THE CARDS: each row of YbulkahzaDoorRows.lean that lists a variable, with what it lists TIED to the program's text (the seventh form; the later family's looks); each row that meets fmt, with fmt's text TOLD by the authors' own Lean function (tested against real Go, not proved from fmt's source: count such statements apart). THE CARD IS WHAT COUNTS. Prove the row's statement (the work); the ties are given (YbulkahzaDoorTie.lean); close each card by the builder's one call (the guide's Derived/Test/ToyasCard.lean, 'card_holds'). Laid BY PROGRAM, IN A SANDBOX (cutbox-door.mjs). By AI agents, Wed Nov 11 2026. No macro, syntax, notation, axiom, sorry.
-/
import Derived.Test.YbulkahzaDoorRows
import GoSem.ClaimSeven
namespace Go.Proofs.YbulkahzaDoor
namespace Rows

/-- THE TIED CARD OF 'store.LawS1690AExact'. -/
def lawS1690AExactCard : Claim7 := { stood := { row := lawS1690AExactRow, standIns := [], harness := (true, "c2bb03228c4a02d97910b145cccb66e4c7211b2e1c69d2ae2031d3a218798c80"), looks := false }, kinds := [], alts := [], laidByText := true, laidKinds := [.data, .data, .data], laidTests := true, laidLooks := .later }
def LawS1690AExactCardSaid : Prop := Claim7.holds Ybad.pinned (.plain (OpenSpec.ofChange lawS1690AExactSpec)) lawS1690AExactCard

/-- THE TIED CARD OF 'store.LawS1690BForget'. -/
def lawS1690BForgetCard : Claim7 := { stood := { row := lawS1690BForgetRow, standIns := [], harness := (true, "c2bb03228c4a02d97910b145cccb66e4c7211b2e1c69d2ae2031d3a218798c80"), looks := false }, kinds := [], alts := [], laidByText := true, laidKinds := [.data, .data, .data], laidTests := true, laidLooks := .later }
def LawS1690BForgetCardSaid : Prop := Claim7.holds Ybad.pinned (.plain (OpenSpec.ofChange lawS1690BForgetSpec)) lawS1690BForgetCard
end Rows
end Go.Proofs.YbulkahzaDoor

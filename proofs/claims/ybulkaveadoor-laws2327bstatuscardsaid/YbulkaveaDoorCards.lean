/-
  DERIVED. GIVEN WITH THE SEED: THE CARDS: each row of YbulkaveaDoorRows.lean that lists a variable, with what it lists TIED to the program's text (the seventh form; the later family's looks); each row that meets fmt, with fmt's text TOLD by the authors' own Lean function (tested against real Go, not proved from fmt's source: count such statements apart). THE CARD IS WHAT COUNTS. Prove the row's statement (the work); the ties are given (YbulkaveaDoorTie.lean); close each card by the builder's one call (the guide's Derived/Test/ToyasCard.lean, 'card_holds'). Laid BY PROGRAM, IN A SANDBOX (cutbox-door.mjs). By AI agents, Wed Nov 11 2026. No macro, syntax, notation, axiom, sorry.
-/
import Derived.Test.YbulkaveaDoorRows
import GoSem.ClaimSeven
namespace Go.Proofs.YbulkaveaDoor
namespace Rows

/-- THE TIED CARD OF 'sequence.LawS2327BStatus'. -/
def lawS2327BStatusCard : Claim7 := { stood := { row := lawS2327BStatusRow, standIns := [], harness := (true, "68fea4e3bd112288f314a276b385f70450123e810fc8eda8e1c5c40a7d01f68c"), looks := false }, kinds := [], alts := [], laidByText := true, laidKinds := [.sentinel], laidTests := true, laidLooks := .later }
def LawS2327BStatusCardSaid : Prop := Claim7.holds Ybad.pinned (.plain (OpenSpec.ofChange lawS2327BStatusSpec)) lawS2327BStatusCard
end Rows
end Go.Proofs.YbulkaveaDoor

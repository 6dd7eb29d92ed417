/-
  DERIVED. GIVEN WITH THE SEED: THE CARDS: each row of YbulkavcyDoorRows.lean that lists a variable, with what it lists TIED to the program's text (the seventh form; the later family's looks); each row that meets fmt, with fmt's text TOLD by the authors' own Lean function (tested against real Go, not proved from fmt's source: count such statements apart). THE CARD IS WHAT COUNTS. Prove the row's statement (the work); the ties are given (YbulkavcyDoorTie.lean); close each card by the builder's one call (the guide's Derived/Test/ToyasCard.lean, 'card_holds'). Laid BY PROGRAM, IN A SANDBOX (cutbox-door.mjs). By AI agents, Wed Nov 11 2026. No macro, syntax, notation, axiom, sorry.
-/
import Derived.Test.YbulkavcyDoorRows
import GoSem.ClaimSeven
namespace Go.Proofs.YbulkavcyDoor
namespace Rows

/-- THE TIED CARD OF 'clepsydra.LawS2325BModel'. -/
def lawS2325BModelCard : Claim7 := { stood := { row := lawS2325BModelRow, standIns := [], harness := (true, "f067ee4b0cc7fc0dacff83b6cc4654bbfe6ce26cf1c723d01c641bbbe6838ccf"), looks := false }, kinds := [], alts := [], laidByText := true, laidKinds := [.data], laidTests := true, laidLooks := .later }
def LawS2325BModelCardSaid : Prop := Claim7.holds Ybad.pinned (.plain (OpenSpec.ofChange lawS2325BModelSpec)) lawS2325BModelCard

/-- THE TIED CARD OF 'clepsydra.LawS2325BIdem'. -/
def lawS2325BIdemCard : Claim7 := { stood := { row := lawS2325BIdemRow, standIns := [], harness := (true, "f067ee4b0cc7fc0dacff83b6cc4654bbfe6ce26cf1c723d01c641bbbe6838ccf"), looks := false }, kinds := [], alts := [], laidByText := true, laidKinds := [.data], laidTests := true, laidLooks := .later }
def LawS2325BIdemCardSaid : Prop := Claim7.holds Ybad.pinned (.plain (OpenSpec.ofChange lawS2325BIdemSpec)) lawS2325BIdemCard
end Rows
end Go.Proofs.YbulkavcyDoor

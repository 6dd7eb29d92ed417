/-
  DERIVED. GIVEN WITH THE SEED: THE CARDS: each row of YbulkavfqFmtRows.lean that lists a variable, with what it lists TIED to the program's text (the seventh form; the later family's looks); each row that meets fmt, with fmt's text TOLD by the authors' own Lean function (tested against real Go, not proved from fmt's source: count such statements apart). THE CARD IS WHAT COUNTS. Prove the row's statement (the work); the ties are given (YbulkavfqFmtTie.lean); close each card by the builder's one call (the guide's Derived/Test/ToyasCard.lean, 'card_holds'). Laid BY PROGRAM, IN A SANDBOX (cutbox-door.mjs). By AI agents, Wed Nov 11 2026. No macro, syntax, notation, axiom, sorry.
-/
import Derived.Test.YbulkavfqFmtRows
import GoSem.ClaimSeven
namespace Go.Proofs.YbulkavfqFmt
namespace Rows

/-- THE TOLD AND TIED CARD OF 'term.LawS2330ARead'. -/
def lawS2330AReadCard : Claim7 := { stood := { row := lawS2330AReadRow, standIns := [], harness := (true, "72e775177fc7d04acfff309101dadb85764ff646d1e65376f36e81dc903a87df"), looks := true }, told := true, laidByText := true, laidKinds := [.sentinel], laidTests := true, laidLooks := .later, goes := false }
def LawS2330AReadToldSaid : Prop := Claim7.holds Ybaf.pinned (.plain (OpenSpec.ofChange lawS2330AReadSpec)) lawS2330AReadCard
/-- ITS FALSE NEIGHBOUR. Refute it at one input. -/
def LawS2330AReadToldWrongFalsely : Prop := Claim7.holds Ybaf.pinned (.plain (OpenSpec.ofChange lawS2330AReadWrong)) lawS2330AReadCard
end Rows
end Go.Proofs.YbulkavfqFmt

/-
  DERIVED. GIVEN WITH THE SEED: THE CARDS: each row of YbulkavcyFmtRows.lean that lists a variable, with what it lists TIED to the program's text (the seventh form; the later family's looks); each row that meets fmt, with fmt's text TOLD by the authors' own Lean function (tested against real Go, not proved from fmt's source: count such statements apart). THE CARD IS WHAT COUNTS. Prove the row's statement (the work); the ties are given (YbulkavcyFmtTie.lean); close each card by the builder's one call (the guide's Derived/Test/ToyasCard.lean, 'card_holds'). Laid BY PROGRAM, IN A SANDBOX (cutbox-door.mjs). By AI agents, Wed Nov 11 2026. No macro, syntax, notation, axiom, sorry.
-/
import Derived.Test.YbulkavcyFmtRows
import GoSem.ClaimSeven
namespace Go.Proofs.YbulkavcyFmt
namespace Rows

/-- THE TOLD AND TIED CARD OF 'clepsydra.LawS2325CModel'. -/
def lawS2325CModelCard : Claim7 := { stood := { row := lawS2325CModelRow, standIns := [], harness := (true, "7fde8b69a84ac67d67d0b0f27c6d1023c4cd1cecb1e9df4a972b617b16c305c6"), looks := true }, told := true, laidByText := true, laidKinds := [.sentinel, .data], laidTests := true, laidLooks := .later, goes := false }
def LawS2325CModelToldSaid : Prop := Claim7.holds Ybaf.pinned (.plain (OpenSpec.ofChange lawS2325CModelSpec)) lawS2325CModelCard
/-- ITS FALSE NEIGHBOUR. Refute it at one input. -/
def LawS2325CModelToldWrongFalsely : Prop := Claim7.holds Ybaf.pinned (.plain (OpenSpec.ofChange lawS2325CModelWrong)) lawS2325CModelCard

/-- THE TOLD AND TIED CARD OF 'clepsydra.LawS2325CNegate'. -/
def lawS2325CNegateCard : Claim7 := { stood := { row := lawS2325CNegateRow, standIns := [], harness := (true, "7fde8b69a84ac67d67d0b0f27c6d1023c4cd1cecb1e9df4a972b617b16c305c6"), looks := true }, told := true, laidByText := true, laidKinds := [.sentinel, .data], laidTests := true, laidLooks := .later, goes := false }
def LawS2325CNegateToldSaid : Prop := Claim7.holds Ybaf.pinned (.plain (OpenSpec.ofChange lawS2325CNegateSpec)) lawS2325CNegateCard
/-- ITS FALSE NEIGHBOUR. Refute it at one input. -/
def LawS2325CNegateToldWrongFalsely : Prop := Claim7.holds Ybaf.pinned (.plain (OpenSpec.ofChange lawS2325CNegateWrong)) lawS2325CNegateCard
end Rows
end Go.Proofs.YbulkavcyFmt

/-
  No cell of these rows narrows 'for every input' (looked for: loops, veiled, ifaces, maps, wideKeys, modest, calm, conditions, laid).
  DERIVED. THE GIVEN ROWS OF THIS SEAT. 2 by the template 'for every input the law returns true; each argument reads behind the call as it read before'; 0 by the template 'total and deterministic' (their statements: YbulkavcyTotals.lean).
  GIVEN WITH THE SEED: the statements are not yours to turn. If you find one false, say at which input.
  Laid BY PROGRAM, IN A SANDBOX (cutbox-rows.mjs): the forced cells as the released guide's own fill.sh prints them over the translation 0d20d56d8e11ea03… (all of the seat's roots in one cut). By AI agents, Wed Nov 11 2026. No macro, syntax, notation, axiom, sorry.
-/
import Derived.Test.YbulkavcyChecked
import GoSem.Claim
import GoSem.ClaimJoined
import GoSem.ClaimMapViews
import Derived.JoinedTies
import Derived.KernelRfl
namespace Go.Proofs.Ybulkavcy
/- THE CELL 'sum', in the pinned program and in every row, IS THE sha256 OF THE DUMP (.gsa) THAT YbulkavcyProg.lean LOADS. Nothing in Lean hashes anything: it is a label: what it is worth is what the hold of that sum in a sandbox is worth. -/
noncomputable def Yba.pinned : Pinned := { name := "ybulkavcy", sum := "0d20d56d8e11ea030c57990904905295cd1b78bd0219121e1079f3c5d3d07d8d", checked := Yba.checked }
namespace Rows
def none {H : Type} : Left H := { results := [], args := [] }

/-- 'clepsydra.LawS2325ADigits': WHATEVER THE INPUT: true; the input reads as it did. -/
def lawS2325ADigitsSpec : ChangeSpec := { name := "lawS2325ADigits", fn := fun _ => fun
  | [d] => { results := [.lit (.bool true)], args := [d] }
  | _ => none }
def lawS2325ADigitsRow : OpenClaim := { program := "ybulkavcy", sum := "0d20d56d8e11ea030c57990904905295cd1b78bd0219121e1079f3c5d3d07d8d", func := "example.com/clepsydra/clepsydra.LawS2325ADigits", spec := "lawS2325ADigits", apart := false }
def LawS2325ADigitsSaid : Prop := lawS2325ADigitsRow.holds Yba.pinned (OpenSpec.ofChange lawS2325ADigitsSpec)

/-- ITS FALSE NEIGHBOUR: 'it returns false'. Refute it at one input. -/
def lawS2325ADigitsWrong : ChangeSpec := { name := "lawS2325ADigits", fn := fun _ => fun
  | [d] => { results := [.lit (.bool false)], args := [d] }
  | _ => none }
def LawS2325ADigitsWrongFalsely : Prop := lawS2325ADigitsRow.holds Yba.pinned (OpenSpec.ofChange lawS2325ADigitsWrong)

/-- 'clepsydra.LawS2325ARanges': WHATEVER THE INPUT: true; the input reads as it did. -/
def lawS2325ARangesSpec : ChangeSpec := { name := "lawS2325ARanges", fn := fun _ => fun
  | [d] => { results := [.lit (.bool true)], args := [d] }
  | _ => none }
def lawS2325ARangesRow : OpenClaim := { program := "ybulkavcy", sum := "0d20d56d8e11ea030c57990904905295cd1b78bd0219121e1079f3c5d3d07d8d", func := "example.com/clepsydra/clepsydra.LawS2325ARanges", spec := "lawS2325ARanges", apart := false }
def LawS2325ARangesSaid : Prop := lawS2325ARangesRow.holds Yba.pinned (OpenSpec.ofChange lawS2325ARangesSpec)

/-- ITS FALSE NEIGHBOUR: 'it returns false'. Refute it at one input. -/
def lawS2325ARangesWrong : ChangeSpec := { name := "lawS2325ARanges", fn := fun _ => fun
  | [d] => { results := [.lit (.bool false)], args := [d] }
  | _ => none }
def LawS2325ARangesWrongFalsely : Prop := lawS2325ARangesRow.holds Yba.pinned (OpenSpec.ofChange lawS2325ARangesWrong)

end Rows
end Go.Proofs.Ybulkavcy

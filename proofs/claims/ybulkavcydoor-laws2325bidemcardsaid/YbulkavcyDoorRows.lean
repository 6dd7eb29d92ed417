/-
  NARROWER THAN 'FOR EVERY INPUT', by the rows' own cells (each row's printed sentence says how): LawS2325BModel: laid · LawS2325BIdem: laid.
  DERIVED. THE GIVEN ROWS OF THIS SEAT. 2 by the template 'for every input the law returns true; each argument reads behind the call as it read before'; 0 by the template 'total and deterministic' (their statements: YbulkavcyDoorTotals.lean).
  GIVEN WITH THE SEED: the statements are not yours to turn. If you find one false, say at which input.
  Laid BY PROGRAM, IN A SANDBOX (cutbox-rows.mjs): the forced cells as the released guide's own fill.sh prints them over the translation e8fc235100be92db… (all of the seat's roots in one cut). By AI agents, Wed Nov 11 2026. No macro, syntax, notation, axiom, sorry.
-/
import Derived.Test.YbulkavcyDoorChecked
import GoSem.Claim
import GoSem.ClaimJoined
import GoSem.ClaimMapViews
import Derived.JoinedTies
import Derived.KernelRfl
namespace Go.Proofs.YbulkavcyDoor
/- THE CELL 'sum', in the pinned program and in every row, IS THE sha256 OF THE DUMP (.gsa) THAT YbulkavcyDoorProg.lean LOADS. Nothing in Lean hashes anything: it is a label: what it is worth is what the hold of that sum in a sandbox is worth. -/
noncomputable def Ybad.pinned : Pinned := { name := "ybulkavcydoor", sum := "e8fc235100be92db81bda9d7bef872619687a02e015e74793152f59aa9b60d7e", checked := Ybad.checked }
namespace Rows
def none {H : Type} : Left H := { results := [], args := [] }

/- WHAT THE LISTED PACKAGE-LEVEL VARIABLES READ AS WHEN THE CALL BEGINS. Each datum BY PROGRAM (the guide's laid-datum.mjs) off the statement by which the dump's own 'gosem.cut.vars' lays the variable. In a bare row this is a premise. The card (YbulkavcyDoorCards.lean) ties it to the program's text. -/
def laid_example_com_clepsydra_clepsydra_pow10 {H : Type} : DataW H := .agg [.lit (.int .i64 1), .lit (.int .i64 10), .lit (.int .i64 100), .lit (.int .i64 1000), .lit (.int .i64 10000), .lit (.int .i64 100000), .lit (.int .i64 1000000)]

/-- 'clepsydra.LawS2325BModel': WHATEVER THE INPUT: true; the input reads as it did. -/
def lawS2325BModelSpec : ChangeSpec := { name := "lawS2325BModel", vars := ["example.com/clepsydra/clepsydra.pow10"], fn := fun _ => fun
  | [d1, d2, d3, g1] => { results := [.lit (.bool true)], args := [d1, d2, d3], vars := [g1] }
  | _ => none }
def lawS2325BModelRow : OpenClaim := { program := "ybulkavcydoor", sum := "e8fc235100be92db81bda9d7bef872619687a02e015e74793152f59aa9b60d7e", func := "example.com/clepsydra/clepsydra.LawS2325BModel", spec := "lawS2325BModel", named := ["example.com/clepsydra/clepsydra.pow10"], apart := false, laid := [("example.com/clepsydra/clepsydra.pow10", laid_example_com_clepsydra_clepsydra_pow10)] }
def LawS2325BModelSaid : Prop := lawS2325BModelRow.holds Ybad.pinned (OpenSpec.ofChange lawS2325BModelSpec)

/-- ITS FALSE NEIGHBOUR: 'it returns false'. Refute it at one input. -/
def lawS2325BModelWrong : ChangeSpec := { name := "lawS2325BModel", vars := ["example.com/clepsydra/clepsydra.pow10"], fn := fun _ => fun
  | [d1, d2, d3, g1] => { results := [.lit (.bool false)], args := [d1, d2, d3], vars := [g1] }
  | _ => none }
def LawS2325BModelWrongFalsely : Prop := lawS2325BModelRow.holds Ybad.pinned (OpenSpec.ofChange lawS2325BModelWrong)

/-- 'clepsydra.LawS2325BIdem': WHATEVER THE INPUT: true; the input reads as it did. -/
def lawS2325BIdemSpec : ChangeSpec := { name := "lawS2325BIdem", vars := ["example.com/clepsydra/clepsydra.pow10"], fn := fun _ => fun
  | [d1, d2, g1] => { results := [.lit (.bool true)], args := [d1, d2], vars := [g1] }
  | _ => none }
def lawS2325BIdemRow : OpenClaim := { program := "ybulkavcydoor", sum := "e8fc235100be92db81bda9d7bef872619687a02e015e74793152f59aa9b60d7e", func := "example.com/clepsydra/clepsydra.LawS2325BIdem", spec := "lawS2325BIdem", named := ["example.com/clepsydra/clepsydra.pow10"], apart := false, laid := [("example.com/clepsydra/clepsydra.pow10", laid_example_com_clepsydra_clepsydra_pow10)] }
def LawS2325BIdemSaid : Prop := lawS2325BIdemRow.holds Ybad.pinned (OpenSpec.ofChange lawS2325BIdemSpec)

/-- ITS FALSE NEIGHBOUR: 'it returns false'. Refute it at one input. -/
def lawS2325BIdemWrong : ChangeSpec := { name := "lawS2325BIdem", vars := ["example.com/clepsydra/clepsydra.pow10"], fn := fun _ => fun
  | [d1, d2, g1] => { results := [.lit (.bool false)], args := [d1, d2], vars := [g1] }
  | _ => none }
def LawS2325BIdemWrongFalsely : Prop := lawS2325BIdemRow.holds Ybad.pinned (OpenSpec.ofChange lawS2325BIdemWrong)

end Rows
end Go.Proofs.YbulkavcyDoor

/-
  No cell of these rows narrows 'for every input' (looked for: loops, veiled, ifaces, maps, wideKeys, modest, calm, conditions, laid).
  DERIVED. THE GIVEN ROWS OF THIS SEAT. 2 by the template 'for every input the law returns true; each argument reads behind the call as it read before'; 0 by the template 'total and deterministic' (their statements: YbulkavfqTotals.lean).
  GIVEN WITH THE SEED: the statements are not yours to turn. If you find one false, say at which input.
  Laid BY PROGRAM, IN A SANDBOX (cutbox-rows.mjs): the forced cells as the released guide's own fill.sh prints them over the translation b56e73afb07b762b… (all of the seat's roots in one cut). By AI agents, Wed Nov 11 2026. No macro, syntax, notation, axiom, sorry.
-/
import Derived.Test.YbulkavfqChecked
import GoSem.Claim
import GoSem.ClaimJoined
import GoSem.ClaimMapViews
import Derived.JoinedTies
import Derived.KernelRfl
namespace Go.Proofs.Ybulkavfq
/- THE CELL 'sum', in the pinned program and in every row, IS THE sha256 OF THE DUMP (.gsa) THAT YbulkavfqProg.lean LOADS. Nothing in Lean hashes anything: it is a label: what it is worth is what the hold of that sum in a sandbox is worth. -/
noncomputable def Yba.pinned : Pinned := { name := "ybulkavfq", sum := "b56e73afb07b762b28c3bb1cea1179ea8690d7e9f84be6c26e2e67d4ced1655b", checked := Yba.checked }
namespace Rows
def none {H : Type} : Left H := { results := [], args := [] }

/-- 'term.LawS2330BTable': WHATEVER THE INPUT: true; the input reads as it did. -/
def lawS2330BTableSpec : ChangeSpec := { name := "lawS2330BTable", fn := fun _ => fun
  | [d] => { results := [.lit (.bool true)], args := [d] }
  | _ => none }
def lawS2330BTableRow : OpenClaim := { program := "ybulkavfq", sum := "b56e73afb07b762b28c3bb1cea1179ea8690d7e9f84be6c26e2e67d4ced1655b", func := "example.com/nodeweave/nodeweave/term.LawS2330BTable", spec := "lawS2330BTable", apart := false }
def LawS2330BTableSaid : Prop := lawS2330BTableRow.holds Yba.pinned (OpenSpec.ofChange lawS2330BTableSpec)

/-- ITS FALSE NEIGHBOUR: 'it returns false'. Refute it at one input. -/
def lawS2330BTableWrong : ChangeSpec := { name := "lawS2330BTable", fn := fun _ => fun
  | [d] => { results := [.lit (.bool false)], args := [d] }
  | _ => none }
def LawS2330BTableWrongFalsely : Prop := lawS2330BTableRow.holds Yba.pinned (OpenSpec.ofChange lawS2330BTableWrong)

/-- 'term.LawS2330BRange': WHATEVER THE INPUT: true; the input reads as it did. -/
def lawS2330BRangeSpec : ChangeSpec := { name := "lawS2330BRange", fn := fun _ => fun
  | [d] => { results := [.lit (.bool true)], args := [d] }
  | _ => none }
def lawS2330BRangeRow : OpenClaim := { program := "ybulkavfq", sum := "b56e73afb07b762b28c3bb1cea1179ea8690d7e9f84be6c26e2e67d4ced1655b", func := "example.com/nodeweave/nodeweave/term.LawS2330BRange", spec := "lawS2330BRange", apart := false }
def LawS2330BRangeSaid : Prop := lawS2330BRangeRow.holds Yba.pinned (OpenSpec.ofChange lawS2330BRangeSpec)

/-- ITS FALSE NEIGHBOUR: 'it returns false'. Refute it at one input. -/
def lawS2330BRangeWrong : ChangeSpec := { name := "lawS2330BRange", fn := fun _ => fun
  | [d] => { results := [.lit (.bool false)], args := [d] }
  | _ => none }
def LawS2330BRangeWrongFalsely : Prop := lawS2330BRangeRow.holds Yba.pinned (OpenSpec.ofChange lawS2330BRangeWrong)

end Rows
end Go.Proofs.Ybulkavfq

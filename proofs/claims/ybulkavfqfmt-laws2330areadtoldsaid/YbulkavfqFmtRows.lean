/-
  NARROWER THAN 'FOR EVERY INPUT', by the rows' own cells (each row's printed sentence says how): LawS2330ARead: ifaces, laid.
  DERIVED. THE GIVEN ROWS OF THIS SEAT. 1 by the template 'for every input the law returns true; each argument reads behind the call as it read before'; 0 by the template 'total and deterministic' (their statements: YbulkavfqFmtTotals.lean).
  GIVEN WITH THE SEED: the statements are not yours to turn. If you find one false, say at which input.
  Laid BY PROGRAM, IN A SANDBOX (cutbox-rows.mjs): the forced cells as the released guide's own fill.sh prints them over the translation 128907bee45ec5d2… (all of the seat's roots in one cut). By AI agents, Wed Nov 11 2026. No macro, syntax, notation, axiom, sorry.
-/
import Derived.Test.YbulkavfqFmtChecked
import GoSem.Claim
import GoSem.ClaimJoined
import GoSem.ClaimMapViews
import Derived.JoinedTies
import Derived.KernelRfl
namespace Go.Proofs.YbulkavfqFmt
/- THE CELL 'sum', in the pinned program and in every row, IS THE sha256 OF THE DUMP (.gsa) THAT YbulkavfqFmtProg.lean LOADS. Nothing in Lean hashes anything: it is a label: what it is worth is what the hold of that sum in a sandbox is worth. -/
noncomputable def Ybaf.pinned : Pinned := { name := "ybulkavfqfmt", sum := "128907bee45ec5d26a7350473b9428b44f59b6410628887ba0e729359378a05a", checked := Ybaf.checked }
namespace Rows
def none {H : Type} : Left H := { results := [], args := [] }

/- WHAT THE LISTED PACKAGE-LEVEL VARIABLES READ AS WHEN THE CALL BEGINS. Each datum BY PROGRAM (the guide's laid-datum.mjs) off the statement by which the dump's own 'gosem.cut.vars' lays the variable. In a bare row this is a premise. The card (YbulkavfqFmtCards.lean) ties it to the program's text. -/
def laid_example_com_nodeweave_nodeweave_term_errCutShort {H : Type} : DataW H := .iface "*errors.errorString" (.ptr (.agg [.lit (.string [105, 110, 112, 117, 116, 32, 101, 110, 100, 115, 32, 105, 110, 115, 105, 100, 101, 32, 97, 32, 116, 101, 114, 109])]))

/-- 'term.LawS2330ARead': WHATEVER THE INPUT: true; the input reads as it did. -/
def lawS2330AReadSpec : ChangeSpec := { name := "lawS2330ARead", vars := ["example.com/nodeweave/nodeweave/term.errCutShort"], fn := fun _ => fun
  | [d1, d2, g1] => { results := [.lit (.bool true)], args := [d1, d2], vars := [g1] }
  | _ => none }
def lawS2330AReadRow : OpenClaim := { program := "ybulkavfqfmt", sum := "128907bee45ec5d26a7350473b9428b44f59b6410628887ba0e729359378a05a", func := "example.com/nodeweave/nodeweave/term.LawS2330ARead", spec := "lawS2330ARead", stops := ["fmt.errorf"], inPlace := ["fmt.errorf", "internal/reflectlite.TypeOf"], unfollowed := true, recurses := true, named := ["example.com/nodeweave/nodeweave/term.errCutShort", "encoding/binary.BigEndian"], ifaces := true, apart := false, laid := [("example.com/nodeweave/nodeweave/term.errCutShort", laid_example_com_nodeweave_nodeweave_term_errCutShort)] }
/-- NO THEOREM (fmt's text is open here; it may be false): for the released tool's asking of the row's closed facts alone. THE STATEMENT IS 'LawS2330AReadToldSaid' (YbulkavfqFmtCards.lean). -/
def LawS2330AReadFormAsk : Prop := lawS2330AReadRow.holds Ybaf.pinned (OpenSpec.ofChange lawS2330AReadSpec)

/-- ITS FALSE NEIGHBOUR: 'it returns false'. Refute it at one input. -/
def lawS2330AReadWrong : ChangeSpec := { name := "lawS2330ARead", vars := ["example.com/nodeweave/nodeweave/term.errCutShort"], fn := fun _ => fun
  | [d1, d2, g1] => { results := [.lit (.bool false)], args := [d1, d2], vars := [g1] }
  | _ => none }
def LawS2330AReadWrongFormAsk : Prop := lawS2330AReadRow.holds Ybaf.pinned (OpenSpec.ofChange lawS2330AReadWrong)

end Rows
end Go.Proofs.YbulkavfqFmt

/-
  NARROWER THAN 'FOR EVERY INPUT', by the rows' own cells (each row's printed sentence says how): LawS2325CModel: ifaces, laid · LawS2325CNegate: ifaces, laid.
  DERIVED. THE GIVEN ROWS OF THIS SEAT. 2 by the template 'for every input the law returns true; each argument reads behind the call as it read before'; 0 by the template 'total and deterministic' (their statements: YbulkavcyFmtTotals.lean).
  GIVEN WITH THE SEED: the statements are not yours to turn. If you find one false, say at which input.
  Laid BY PROGRAM, IN A SANDBOX (cutbox-rows.mjs): the forced cells as the released guide's own fill.sh prints them over the translation 2182b5d8007243fa… (all of the seat's roots in one cut). By AI agents, Wed Nov 11 2026. No macro, syntax, notation, axiom, sorry.
-/
import Derived.Test.YbulkavcyFmtChecked
import GoSem.Claim
import GoSem.ClaimJoined
import GoSem.ClaimMapViews
import Derived.JoinedTies
import Derived.KernelRfl
namespace Go.Proofs.YbulkavcyFmt
/- THE CELL 'sum', in the pinned program and in every row, IS THE sha256 OF THE DUMP (.gsa) THAT YbulkavcyFmtProg.lean LOADS. Nothing in Lean hashes anything: it is a label: what it is worth is what the hold of that sum in a sandbox is worth. -/
noncomputable def Ybaf.pinned : Pinned := { name := "ybulkavcyfmt", sum := "2182b5d8007243fa1cfbadec8fabd6e385822b700865c2bece32045e1c21a8be", checked := Ybaf.checked }
namespace Rows
def none {H : Type} : Left H := { results := [], args := [] }

/- WHAT THE LISTED PACKAGE-LEVEL VARIABLES READ AS WHEN THE CALL BEGINS. Each datum BY PROGRAM (the guide's laid-datum.mjs) off the statement by which the dump's own 'gosem.cut.vars' lays the variable. In a bare row this is a premise. The card (YbulkavcyFmtCards.lean) ties it to the program's text. -/
def laid_example_com_clepsydra_clepsydra_ErrPrecision {H : Type} : DataW H := .iface "*errors.errorString" (.ptr (.agg [.lit (.string [99, 108, 101, 112, 115, 121, 100, 114, 97, 58, 32, 102, 114, 97, 99, 116, 105, 111, 110, 97, 108, 32, 115, 101, 99, 111, 110, 100, 115, 32, 112, 114, 101, 99, 105, 115, 105, 111, 110, 32, 110, 111, 116, 32, 48, 32, 116, 111, 32, 54])]))
def laid_example_com_clepsydra_clepsydra_pow10 {H : Type} : DataW H := .agg [.lit (.int .i64 1), .lit (.int .i64 10), .lit (.int .i64 100), .lit (.int .i64 1000), .lit (.int .i64 10000), .lit (.int .i64 100000), .lit (.int .i64 1000000)]

/-- 'clepsydra.LawS2325CModel': WHATEVER THE INPUT: true; the input reads as it did. -/
def lawS2325CModelSpec : ChangeSpec := { name := "lawS2325CModel", vars := ["example.com/clepsydra/clepsydra.ErrPrecision", "example.com/clepsydra/clepsydra.pow10"], fn := fun _ => fun
  | [d1, d2, d3, g1, g2] => { results := [.lit (.bool true)], args := [d1, d2, d3], vars := [g1, g2] }
  | _ => none }
def lawS2325CModelRow : OpenClaim := { program := "ybulkavcyfmt", sum := "2182b5d8007243fa1cfbadec8fabd6e385822b700865c2bece32045e1c21a8be", func := "example.com/clepsydra/clepsydra.LawS2325CModel", spec := "lawS2325CModel", stops := ["fmt.errorf"], inPlace := ["fmt.errorf", "internal/reflectlite.TypeOf"], unfollowed := true, recurses := true, named := ["example.com/clepsydra/clepsydra.ErrPrecision", "example.com/clepsydra/clepsydra.pow10"], ifaces := true, apart := false, laid := [("example.com/clepsydra/clepsydra.ErrPrecision", laid_example_com_clepsydra_clepsydra_ErrPrecision), ("example.com/clepsydra/clepsydra.pow10", laid_example_com_clepsydra_clepsydra_pow10)] }
/-- NO THEOREM (fmt's text is open here; it may be false): for the released tool's asking of the row's closed facts alone. THE STATEMENT IS 'LawS2325CModelToldSaid' (YbulkavcyFmtCards.lean). -/
def LawS2325CModelFormAsk : Prop := lawS2325CModelRow.holds Ybaf.pinned (OpenSpec.ofChange lawS2325CModelSpec)

/-- ITS FALSE NEIGHBOUR: 'it returns false'. Refute it at one input. -/
def lawS2325CModelWrong : ChangeSpec := { name := "lawS2325CModel", vars := ["example.com/clepsydra/clepsydra.ErrPrecision", "example.com/clepsydra/clepsydra.pow10"], fn := fun _ => fun
  | [d1, d2, d3, g1, g2] => { results := [.lit (.bool false)], args := [d1, d2, d3], vars := [g1, g2] }
  | _ => none }
def LawS2325CModelWrongFormAsk : Prop := lawS2325CModelRow.holds Ybaf.pinned (OpenSpec.ofChange lawS2325CModelWrong)

/-- 'clepsydra.LawS2325CNegate': WHATEVER THE INPUT: true; the input reads as it did. -/
def lawS2325CNegateSpec : ChangeSpec := { name := "lawS2325CNegate", vars := ["example.com/clepsydra/clepsydra.ErrPrecision", "example.com/clepsydra/clepsydra.pow10"], fn := fun _ => fun
  | [d1, d2, d3, g1, g2] => { results := [.lit (.bool true)], args := [d1, d2, d3], vars := [g1, g2] }
  | _ => none }
def lawS2325CNegateRow : OpenClaim := { program := "ybulkavcyfmt", sum := "2182b5d8007243fa1cfbadec8fabd6e385822b700865c2bece32045e1c21a8be", func := "example.com/clepsydra/clepsydra.LawS2325CNegate", spec := "lawS2325CNegate", stops := ["fmt.errorf"], inPlace := ["fmt.errorf"], named := ["example.com/clepsydra/clepsydra.ErrPrecision", "example.com/clepsydra/clepsydra.pow10"], ifaces := true, apart := false, laid := [("example.com/clepsydra/clepsydra.ErrPrecision", laid_example_com_clepsydra_clepsydra_ErrPrecision), ("example.com/clepsydra/clepsydra.pow10", laid_example_com_clepsydra_clepsydra_pow10)] }
/-- NO THEOREM (fmt's text is open here; it may be false): for the released tool's asking of the row's closed facts alone. THE STATEMENT IS 'LawS2325CNegateToldSaid' (YbulkavcyFmtCards.lean). -/
def LawS2325CNegateFormAsk : Prop := lawS2325CNegateRow.holds Ybaf.pinned (OpenSpec.ofChange lawS2325CNegateSpec)

/-- ITS FALSE NEIGHBOUR: 'it returns false'. Refute it at one input. -/
def lawS2325CNegateWrong : ChangeSpec := { name := "lawS2325CNegate", vars := ["example.com/clepsydra/clepsydra.ErrPrecision", "example.com/clepsydra/clepsydra.pow10"], fn := fun _ => fun
  | [d1, d2, d3, g1, g2] => { results := [.lit (.bool false)], args := [d1, d2, d3], vars := [g1, g2] }
  | _ => none }
def LawS2325CNegateWrongFormAsk : Prop := lawS2325CNegateRow.holds Ybaf.pinned (OpenSpec.ofChange lawS2325CNegateWrong)

end Rows
end Go.Proofs.YbulkavcyFmt

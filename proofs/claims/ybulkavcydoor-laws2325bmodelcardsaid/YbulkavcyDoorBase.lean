import Derived.Test.YbulkavcyDoorLeaves
import Derived.ProofKit
import Derived.OpenShut
import Derived.OpenVars
import Derived.LaidMore
import Derived.Lay
import Derived.Lib.LaidTab
namespace Go.Proofs.YbulkavcyDoor
open Go.ChangeShapes Go.WideShapes Go.ChangeAt Go.RowKit

/-- The table's name, off the given row. -/
abbrev powN : String := Rows.lawS2325BModelRow.named.headD ""
theorem own : ownKnob Ybad.prog.godebug = none := by kernel_rfl
theorem laidOut : laidOutB Ybad.prog = true := by kernel_rfl
theorem gPow : Ybad.prog.globalNamed powN = some 0 := by kernel_rfl
theorem tPow : (Ybad.prog.globals[0]?).map (·.type) = some 33 := by kernel_rfl
theorem cells33 : Ybad.prog.cellsOf 33 = 7 := by kernel_rfl
theorem cells3 : Ybad.prog.cellsOf 3 = 1 := by kernel_rfl

theorem wf8 {n : Int} (h : (Lit.int .u8 n).wf = true) : 0 ≤ n ∧ n < 256 := by
  simp [Lit.wf, IntKind.min, IntKind.max, IntKind.signed, IntKind.bits] at h
  omega

/-- WHAT THE CONDITION GIVES THE WALKS: the table's seven cells. -/
theorem table_of_laid {W : World} (h : laidMetH Ybad.prog Rows.lawS2325BModelRow.laid W) : ∀ j, j ≤ 6 → W.cell? ⟨0, j, none⟩ = some (.int .i64 (pw j)) := by
  rw [MakeChecks.laidMetH_plain _ _ _ (by kernel_rfl)] at h
  have ht : Lib.TabIs Ybad.prog W powN .i64 [1, 10, 100, 1000, 10000, 100000, 1000000] := Lib.tabIs_of_head gPow tPow Ybad.underlying33 Ybad.underlying3 cells3 cells33 h
  intro j hj
  have := World.var?_cell gPow ht j
  rw [this]
  match j, hj with
  | 0, _ => rfl
  | 1, _ => rfl
  | 2, _ => rfl
  | 3, _ => rfl
  | 4, _ => rfl
  | 5, _ => rfl
  | 6, _ => rfl

end Go.Proofs.YbulkavcyDoor

import Derived.Test.YbulkavcyFmtLeaves
import Derived.ProofKit
import Derived.OpenShut
import Derived.OpenVars
import Derived.LaidMore
import Derived.Lay
import Derived.Lib.LaidTab
import Derived.Stop.JoinedTold
import Derived.Stop.LaidErr
namespace Go.Proofs.YbulkavcyFmt
open Go.ChangeShapes Go.WideShapes Go.ChangeAt Go.RowKit

/-- The two listed variables' names, off the given row. -/
abbrev errN : String := Rows.lawS2325CModelRow.named.headD ""
abbrev powN : String := Rows.lawS2325CModelRow.named.tail.headD ""
theorem own : ownKnob Ybaf.prog.godebug = none := by kernel_rfl
theorem laidOut : laidOutB Ybaf.prog = true := by kernel_rfl
theorem gErr : Ybaf.prog.globalNamed errN = some 0 := by kernel_rfl
theorem tErr : (Ybaf.prog.globals[0]?).map (·.type) = some 27 := by kernel_rfl
theorem gPow : Ybaf.prog.globalNamed powN = some 1 := by kernel_rfl
theorem tPow : (Ybaf.prog.globals[1]?).map (·.type) = some 50 := by kernel_rfl
theorem cells50 : Ybaf.prog.cellsOf 50 = 7 := by kernel_rfl
theorem cells3 : Ybaf.prog.cellsOf 3 = 1 := by kernel_rfl

theorem wf8 {n : Int} (h : (Lit.int .u8 n).wf = true) : 0 ≤ n ∧ n < 256 := by
  simp [Lit.wf, IntKind.min, IntKind.max, IntKind.signed, IntKind.bits] at h
  omega

theorem plain_of_laid {W : World} (h : laidMetH Ybaf.prog Rows.lawS2325CModelRow.laid W) : laidMet Ybaf.prog Rows.lawS2325CModelRow.laid W := by
  rwa [MakeChecks.laidMetH_plain _ _ _ (by kernel_rfl)] at h

/-- WHAT THE CONDITION GIVES THE WALKS: the table's seven cells. -/
theorem table_of_laid {W : World} (h : laidMetH Ybaf.prog Rows.lawS2325CModelRow.laid W) : ∀ j, j ≤ 6 → W.cell? ⟨1, j, none⟩ = some (.int .i64 (pw j)) := by
  have h' : laidMet Ybaf.prog [(powN, Rows.laid_example_com_clepsydra_clepsydra_pow10)] W := (plain_of_laid h).tail
  have ht : Lib.TabIs Ybaf.prog W powN .i64 [1, 10, 100, 1000, 10000, 100000, 1000000] := Lib.tabIs_of_head gPow tPow Ybaf.underlying50 Ybaf.underlying3 cells3 cells50 h'
  intro j hj
  have := World.var?_cell gPow ht j
  rw [this]
  match j, hj with
  | 0, _ => rfl
  | 1, _ => rfl
  | 2, _ => rfl
  | 3, _ => rfl
  | 4, _ => rfl
  | 5, _ => rfl
  | 6, _ => rfl

/-- ONE START THAT FITS, at the listed variables laid by themselves, on a tape that F answers. -/
theorem witness_laid {H : Type} {enc : TypeId × Value → H} {C : Checked} {os : Os} {f : FuncId} {fn : Func} {s : OpenSpec} {conds : List PathCond} {apart : Bool} {laid : List (String × DataW Unit)} (w0 : World) (args : Array Value) (hos : w0.os = os)
    (hsh : (w0.forCall (fun _ _ => 0) ⟨#[], args, []⟩).Shaped C.prog)
    (hok : Input.okWideB C.prog (w0.forCall (fun _ _ => 0) ⟨#[], args, []⟩) f ⟨#[], args, []⟩ = true)
    (hrow : s.preRow enc C.prog fn conds apart laid (w0.forCall (fun _ _ => 0) ⟨#[], args, []⟩).memory args) (F : Stop.Interp) :
    ∃ (w : World) (tape : Tape) (i : Input), w.os = os ∧ (w.forCall tape i).Shaped C.prog ∧ i.vars = [] ∧ Input.okWide C.prog (w.forCall tape i) .any w.heap.size f i ∧
      s.preRow enc C.prog fn conds apart laid (w.forCall tape i).memory i.args ∧ ({} : Assume).holds C.prog (lone (Frame.enter C.prog f i.args .normal) [] (w.forCall tape i)) ∧ F.answers tape :=
  ⟨w0, F.over fun _ _ => 0, ⟨#[], args, []⟩, hos, hsh, (Input.okWide_of_okWideB (base := 0) hok).1, (Input.okWide_of_okWideB hok).2, hrow, by
    simp only [Assume.holds]
    exact ⟨by simp, by simp, fun _ => F.over_modest Modest.zero, by simp, by simp⟩, F.over_answers _⟩

theorem stops : Ybaf.pinned.checked.prog.stops = ["fmt.errorf"] := by kernel_rfl
theorem stopKnobs : Ybaf.pinned.checked.prog.stopKnobs = [] := by kernel_rfl
theorem quiet (os : Os) : Stop.quiet Ybaf.pinned.checked.prog os := by
  intro k hk
  rw [stopKnobs] at hk
  cases hk

end Go.Proofs.YbulkavcyFmt

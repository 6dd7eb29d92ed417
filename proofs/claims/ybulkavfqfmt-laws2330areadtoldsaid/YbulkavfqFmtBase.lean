import Derived.Test.YbulkavfqFmtErrorf
import Derived.ProofKit
import Derived.OpenShut
import Derived.OpenVars
import Derived.LaidMore
import Derived.Lay
import Derived.Lib.LaidTab
import Derived.Stop.JoinedTold
import Derived.Stop.LaidErr
namespace Go.Proofs.YbulkavfqFmt
open Go.ChangeShapes Go.WideShapes Go.ChangeAt Go.RowKit

/-- The listed variable's name, off the given row. -/
abbrev errN : String := Rows.lawS2330AReadRow.named.headD ""
theorem own : ownKnob Ybaf.prog.godebug = none := by kernel_rfl
theorem laidOut : laidOutB Ybaf.prog = true := by kernel_rfl
theorem gErr : Ybaf.prog.globalNamed errN = some 0 := by kernel_rfl
theorem tErr : (Ybaf.prog.globals[0]?).map (·.type) = some 29 := by kernel_rfl

theorem wf64 {n : Int} (h : (Lit.int .u64 n).wf = true) : 0 ≤ n ∧ n ≤ 18446744073709551615 := by
  simp [Lit.wf, IntKind.min, IntKind.max, IntKind.signed, IntKind.bits] at h
  omega
theorem wf8 {n : Int} (h : (Lit.int .u8 n).wf = true) : 0 ≤ n ∧ n < 256 := by
  simp [Lit.wf, IntKind.min, IntKind.max, IntKind.signed, IntKind.bits] at h
  omega

theorem plain_of_laid {W : World} (h : laidMetH Ybaf.prog Rows.lawS2330AReadRow.laid W) : laidMet Ybaf.prog Rows.lawS2330AReadRow.laid W := by
  rwa [MakeChecks.laidMetH_plain _ _ _ (by kernel_rfl)] at h

theorem row61 (u : TypeId) (h : Ybaf.prog.typeName? 3 u = some esName) : u = 61 :=
  typeName_ptr_named (nm := "errors.errorString") (by kernel_rfl) (by kernel_rfl) (by decide) u (h.trans (congrArg some (by decide)))

/-- WHAT THE CONDITION GIVES THE WALKS: the variable's cell and its text's. -/
theorem sentinel_of_laid {W : World} (h : laidMetH Ybaf.prog Rows.lawS2330AReadRow.laid W) : ∃ (a : Addr) (s : ByteArray), W.cell? ⟨0, 0, none⟩ = some (.iface 61 (.pointer (some a))) ∧ W.cell? a = some (.string s) := by
  obtain ⟨a, s, hv, hs, _, _⟩ := laid_sentinel (plain_of_laid h) gErr tErr Ybaf.underlying29 row61 Ybaf.underlying61 Ybaf.underlying63 rfl rfl Ybaf.underlying9 (by kernel_rfl) (by kernel_rfl)
  exact ⟨a, s, by simpa using World.var?_cell gErr hv 0, hs⟩

/-- ONE START THAT FITS, at the listed variables laid by themselves, on a tape that F answers. -/
theorem witness_laid {H : Type} {enc : TypeId × Value → H} {C : Checked} {os : Os} {f : FuncId} {fn : Func} {s : OpenSpec} {conds : List PathCond} {apart : Bool} {laid : List (String × DataW Unit)} (w0 : World) (args : Array Value) (hos : w0.os = os)
    (hsh : (w0.forCall (fun _ _ => 0) ⟨#[], args, []⟩).Shaped C.prog)
    (hok : Input.okWideB C.prog (w0.forCall (fun _ _ => 0) ⟨#[], args, []⟩) f ⟨#[], args, []⟩ = true)
    (hrow : s.preRow enc C.prog fn conds apart laid (w0.forCall (fun _ _ => 0) ⟨#[], args, []⟩).memory args) (F : Stop.Interp) :
    ∃ (w : World) (tape : Tape) (i : Input), w.os = os ∧ (w.forCall tape i).Shaped C.prog ∧ i.vars = [] ∧ Input.okWide C.prog (w.forCall tape i) .any w.heap.size f i ∧
      s.preRow enc C.prog fn conds apart laid (w.forCall tape i).memory i.args ∧ ({} : Assume).holds C.prog (lone (Frame.enter C.prog f i.args .normal) [] (w.forCall tape i)) ∧ F.answers tape :=
  ⟨w0, F.over fun _ _ => 0, ⟨#[], args, []⟩, hos, hsh, (Input.okWide_of_okWideB (base := 0) hok).1, (Input.okWide_of_okWideB hok).2, hrow, by
    simp only [Assume.holds]
    exact ⟨by simp, by simp, fun _ => F.over_modest Modest.zero, by simp, by simp⟩, F.over_answers _⟩

theorem stops : Ybaf.pinned.checked.prog.stops = ["fmt.errorf"] := by kernel_rfl
theorem stopKnobs : Ybaf.pinned.checked.prog.stopKnobs = [] := by kernel_rfl
theorem quiet (os : Os) : Stop.quiet Ybaf.pinned.checked.prog os := by
  intro k hk
  rw [stopKnobs] at hk
  cases hk

end Go.Proofs.YbulkavfqFmt

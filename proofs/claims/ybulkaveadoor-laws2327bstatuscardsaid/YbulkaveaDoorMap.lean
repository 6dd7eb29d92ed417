import Derived.Test.YbulkaveaDoorRows
import Derived.WalkKit
import Derived.WalkSpells
import Derived.WalkLawsBesides
import Derived.MapKept
namespace Go.Proofs.YbulkaveaDoor
open Go.RowKit Go.MapKept

theorem key_ok (w : World) (e : Bool) (s : ByteArray) : (Instr.checkKey e 10000 9 (.string s)).run Ybad.prog w = .ok () w :=
  run_checkKey Ybad.underlying9 (by simp [IsKey]) e 9999

theorem look_s (w : World) (M : Nat) (v : Value) (n c : Nat) (h : w.heap[M]? = some (.map #[⟨.string ⟨#[115]⟩, v, n⟩] c)) :
    (Instr.lookup 47 (.map (some M)) (.string ⟨#[115]⟩) true).run Ybad.prog w = .ok (.tuple #[v, .bool true]) w := by
  have hf : (Instr.findKey 9 (.string ⟨#[115]⟩) [⟨.string ⟨#[115]⟩, v, n⟩]).run Ybad.prog w = .ok (some (0, v)) w := run_findKey Ybad.underlying9 (by rw [Instr.findNow, Instr.sameNow, show ((⟨#[115]⟩ : ByteArray) == ⟨#[115]⟩) = true from by decide])
  simp only [Instr.lookup]
  simp [run_underlying Ybad.underlying47, Go.MapKept.run_getObj_map h, key_ok, hf]

theorem put_s (w : World) (M : Nat) (v : Value) (h : w.heap[M]? = some (.map #[] 0)) :
    (Instr.mapUpdate 47 (.map (some M)) (.string ⟨#[115]⟩) v).run Ybad.prog w = .ok () { w with heap := w.heap.setIfInBounds M (.map #[⟨.string ⟨#[115]⟩, v, 0⟩] 1) } := by
  have hf : (Instr.findKey 9 (.string ⟨#[115]⟩) []).run Ybad.prog w = .ok none w := run_findKey Ybad.underlying9 (by simp [Instr.findNow])
  simp only [Instr.mapUpdate]
  simp [run_underlying Ybad.underlying47, Go.MapKept.run_getObj_map h, Go.MapKept.run_setObj_map _ h, key_ok, hf]
end Go.Proofs.YbulkaveaDoor

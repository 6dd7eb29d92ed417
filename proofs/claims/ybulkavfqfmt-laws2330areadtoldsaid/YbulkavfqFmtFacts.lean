import Derived.Test.YbulkavfqFmtRows
import Derived.Stop.CallBack
import Derived.Stop.IfaceNil
import GoSem.ClaimData
namespace Go.Proofs.YbulkavfqFmt
open Go.Extern.Stop Go.Stop Go.Extern

/-- The type's name of a sentinel of errors.New's make, off the given datum. -/
abbrev esName : String := match (Rows.laid_example_com_nodeweave_nodeweave_term_errCutShort (H := Unit)) with
  | .iface n _ => n
  | _ => ""
theorem name61 : Ybaf.prog.typeName? 3 61 = some esName := by kernel_rfl

theorem call11 (args : Array Value) (w : World) : (callFunc 11 args).run Ybaf.prog w = ((FmtStop.errorf #[9, 47] #[29] args).run Ybaf.prog w).andThen fun v w' => .ok (.value v) w' :=
  run_callFunc_extern Ybaf.func11 (by kernel_rfl) (by kernel_rfl) (by kernel_rfl) (by kernel_rfl) args w
theorem guardOk (name : String) (w : World) : (FmtStop.guard name).run Ybaf.prog w = .ok () w := by kernel_rfl
theorem fmt4 : FmtStop.printed? ⟨#[37, 119, 58, 32, 37, 100, 32, 98, 121, 116, 101, 115, 32, 119, 97, 110, 116, 101, 100, 32, 97, 116, 32, 98, 121, 116, 101, 32, 37, 100, 44, 32, 37, 100, 32, 108, 101, 102, 116]⟩ 4 = some [(0, 119, false), (1, 100, false), (2, 100, false), (3, 100, false)] := by kernel_rfl
theorem fmt4r (w : World) : (FmtDoors.printed ⟨#[37, 119, 58, 32, 37, 100, 32, 98, 121, 116, 101, 115, 32, 119, 97, 110, 116, 101, 100, 32, 97, 116, 32, 98, 121, 116, 101, 32, 37, 100, 44, 32, 37, 100, 32, 108, 101, 102, 116]⟩ 4).run Ybaf.prog w = .ok [(0, 119, false), (1, 100, false), (2, 100, false), (3, 100, false)] w := by kernel_rfl
theorem fmt0 : FmtStop.printed? ⟨#[37, 119, 58, 32, 37, 100, 32, 98, 121, 116, 101, 115, 32, 119, 97, 110, 116, 101, 100, 32, 97, 116, 32, 98, 121, 116, 101, 32, 37, 100, 44, 32, 37, 100, 32, 108, 101, 102, 116]⟩ 0 = some [] := by kernel_rfl
theorem fmt0r (w : World) : (FmtDoors.printed ⟨#[37, 119, 58, 32, 37, 100, 32, 98, 121, 116, 101, 115, 32, 119, 97, 110, 116, 101, 100, 32, 97, 116, 32, 98, 121, 116, 101, 32, 37, 100, 44, 32, 37, 100, 32, 108, 101, 102, 116]⟩ 0).run Ybaf.prog w = .ok [] w := by kernel_rfl
def shape3 : List UInt8 := [5, 3, 0, 0, 0, 0, 0, 0, 0, 105, 110, 116]
theorem op3 (name : String) (x : Int) (w : World) : (FmtStop.operand name true 100 false (.iface 3 (.int .i64 x))).run Ybaf.prog w = .ok (shape3, Go.Extern.Stop.digits 8 (x % 2 ^ 64).toNat) w := by kernel_rfl
theorem strict3 (name : String) (x : Int) (w : World) : (FmtStop.strict name (.iface 3 (.int .i64 x))).run Ybaf.prog w = .ok (shape3, Go.Extern.Stop.digits 8 (x % 2 ^ 64).toNat) w := by kernel_rfl
theorem ptr61 (w : World) : (FmtStop.ptrTo "errors.errorString").run Ybaf.prog w = .ok 61 w := by kernel_rfl
theorem elem61 (w : World) : (elemOf 61).run Ybaf.prog w = .ok 63 w := by kernel_rfl
theorem isError61 (w : World) : (FmtDoors.textMethod 61 "Error").run Ybaf.prog w = .ok true w := by kernel_rfl
def plain61 : List UInt8 := 14 :: FmtStop.pack esName.toUTF8.data.toList
theorem opPlain61 (name : String) (a : Addr) (s : ByteArray) (w : World) (hc : w.cell? a = some (.string s)) :
    (FmtStop.operand name true 119 false (.iface 61 (.pointer (some a)))).run Ybaf.prog w = .ok (plain61, s.data.toList) w := by
  have h1 : (typeStr 61).run Ybaf.prog w = .ok esName w := by kernel_rfl
  have d2 : Ybaf.t61.desc = .pointer 63 := rfl
  have d3 : Ybaf.t63.desc = .named "errors.errorString" 62 := rfl
  simp [FmtStop.operand, h1, d2, d3, run_load, hc, plain61]
theorem ptr49 (w : World) : (FmtStop.ptrTo "fmt.wrapError").run Ybaf.prog w = .ok 49 w := by kernel_rfl
theorem elem49 (w : World) : (elemOf 49).run Ybaf.prog w = .ok 88 w := by kernel_rfl
theorem isError49 (w : World) : (FmtDoors.textMethod 49 "Error").run Ybaf.prog w = .ok true w := by kernel_rfl
end Go.Proofs.YbulkavfqFmt

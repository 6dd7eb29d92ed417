import Derived.Test.YbulkavcyFmtRows
import Derived.Stop.CallBack
import Derived.Stop.IfaceNil
import GoSem.ClaimData
namespace Go.Proofs.YbulkavcyFmt
open Go.Extern.Stop Go.Stop Go.Extern

/-- The type's name of a sentinel of errors.New's make, off the given datum. -/
abbrev esName : String := match (Rows.laid_example_com_clepsydra_clepsydra_ErrPrecision (H := Unit)) with
  | .iface n _ => n
  | _ => ""
theorem name65 : Ybaf.prog.typeName? 3 65 = some esName := by kernel_rfl

theorem call18 (args : Array Value) (w : World) : (callFunc 18 args).run Ybaf.prog w = ((FmtStop.errorf #[9, 62] #[27] args).run Ybaf.prog w).andThen fun v w' => .ok (.value v) w' :=
  run_callFunc_extern Ybaf.func18 (by kernel_rfl) (by kernel_rfl) (by kernel_rfl) (by kernel_rfl) args w
theorem guardOk (name : String) (w : World) : (FmtStop.guard name).run Ybaf.prog w = .ok () w := by kernel_rfl
theorem fmt2 : FmtStop.printed? ⟨#[37, 119, 58, 32, 37, 100]⟩ 2 = some [(0, 119, false), (1, 100, false)] := by kernel_rfl
theorem fmt2r (w : World) : (FmtDoors.printed ⟨#[37, 119, 58, 32, 37, 100]⟩ 2).run Ybaf.prog w = .ok [(0, 119, false), (1, 100, false)] w := by kernel_rfl
theorem fmt0 : FmtStop.printed? ⟨#[37, 119, 58, 32, 37, 100]⟩ 0 = some [] := by kernel_rfl
theorem fmt0r (w : World) : (FmtDoors.printed ⟨#[37, 119, 58, 32, 37, 100]⟩ 0).run Ybaf.prog w = .ok [] w := by kernel_rfl
def shape3 : List UInt8 := [5, 3, 0, 0, 0, 0, 0, 0, 0, 105, 110, 116]
theorem op3 (name : String) (x : Int) (w : World) : (FmtStop.operand name true 100 false (.iface 3 (.int .i64 x))).run Ybaf.prog w = .ok (shape3, Go.Extern.Stop.digits 8 (x % 2 ^ 64).toNat) w := by kernel_rfl
theorem strict3 (name : String) (x : Int) (w : World) : (FmtStop.strict name (.iface 3 (.int .i64 x))).run Ybaf.prog w = .ok (shape3, Go.Extern.Stop.digits 8 (x % 2 ^ 64).toNat) w := by kernel_rfl
theorem ptr65 (w : World) : (FmtStop.ptrTo "errors.errorString").run Ybaf.prog w = .ok 65 w := by kernel_rfl
theorem elem65 (w : World) : (elemOf 65).run Ybaf.prog w = .ok 67 w := by kernel_rfl
theorem isError65 (w : World) : (FmtDoors.textMethod 65 "Error").run Ybaf.prog w = .ok true w := by kernel_rfl
def plain65 : List UInt8 := 14 :: FmtStop.pack esName.toUTF8.data.toList
theorem opPlain65 (name : String) (a : Addr) (s : ByteArray) (w : World) (hc : w.cell? a = some (.string s)) :
    (FmtStop.operand name true 119 false (.iface 65 (.pointer (some a)))).run Ybaf.prog w = .ok (plain65, s.data.toList) w := by
  have h1 : (typeStr 65).run Ybaf.prog w = .ok esName w := by kernel_rfl
  have d2 : Ybaf.t65.desc = .pointer 67 := rfl
  have d3 : Ybaf.t67.desc = .named "errors.errorString" 66 := rfl
  simp [FmtStop.operand, h1, d2, d3, run_load, hc, plain65]
theorem ptr64 (w : World) : (FmtStop.ptrTo "fmt.wrapError").run Ybaf.prog w = .ok 64 w := by kernel_rfl
theorem elem64 (w : World) : (elemOf 64).run Ybaf.prog w = .ok 95 w := by kernel_rfl
theorem isError64 (w : World) : (FmtDoors.textMethod 64 "Error").run Ybaf.prog w = .ok true w := by kernel_rfl
end Go.Proofs.YbulkavcyFmt

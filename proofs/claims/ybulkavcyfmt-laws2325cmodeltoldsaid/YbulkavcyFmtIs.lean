import Derived.Test.YbulkavcyFmtRows
import Derived.WalkKit
import Derived.LaidEql
import Derived.Stop.Asserts
import Derived.RowKitTokens
namespace Go.Proofs.YbulkavcyFmt
open Go.RowKit Go.Extern.Stop Go.Stop Go.Extern

theorem isTypeOf (v : Value) (w : World) : (callFunc 13 #[.iface 65 v]).run Ybaf.prog w = .ok (.value (.iface 52 (.agg #[.pointer (some ⟨2, 65, none⟩)]))) w := by kernel_rfl
theorem isComparable (w : World) : (callFunc 42 #[.agg #[.pointer (some ⟨2, 65, none⟩)]]).run Ybaf.prog w = .ok (.value (.bool true)) w := by kernel_rfl
theorem isMethodComparable (v : Value) (w : World) : (Go.method 211 52 v "Comparable").run Ybaf.prog w = .ok (42, v) w := by kernel_rfl
theorem methodUnwrap (v : Value) (w : World) : (Go.method 211 64 v "Unwrap").run Ybaf.prog w = .ok (52, v) w := by kernel_rfl
theorem isComp : (Ybaf.prog.info? 65).map (·.comparable) = some true := by kernel_rfl
theorem isSize : (Ybaf.prog.info? 67).map (·.size) = some 1 := by kernel_rfl
theorem noIsW (v : Value) (xT : TypeId) (w : World) : (Instr.typeAssert (.iface 64 v) xT 54 true).run Ybaf.prog w = .ok (.tuple #[.nilIface, .bool false]) w := run_typeAssert_lacksB Ybaf.underlying54 (by kernel_rfl) (by kernel_rfl) v xT w
theorem hasUnwrapW (v : Value) (xT : TypeId) (w : World) : (Instr.typeAssert (.iface 64 v) xT 57 true).run Ybaf.prog w = .ok (.tuple #[.iface 64 v, .bool true]) w := run_typeAssert_hasB Ybaf.underlying57 (by kernel_rfl) v xT w

set_option maxHeartbeats 400000 in
theorem is_wrap_same (pb po : Nat) (b : Addr) (w : World) (h1 : w.cell? ⟨pb, po + 1, none⟩ = some (.iface 65 (.pointer (some b)))) :
    Calls Ybaf.prog 7 #[.iface 64 (.pointer (some ⟨pb, po, none⟩)), .iface 65 (.pointer (some b))] w fun e w' => e = .returned (.bool true) ∧ w' = w := by
  obtain ⟨i, hi, hcmp⟩ := Option.map_eq_some_iff.1 isComp
  obtain ⟨j, hj, hjs⟩ := Option.map_eq_some_iff.1 isSize
  have mR := isMethodComparable
  have mU := methodUnwrap
  have tT := isTypeOf
  have cT := isComparable
  have nW := noIsW
  have uW := hasUnwrapW
  have heq := run_eql_iface_ptr_same (P := Ybaf.prog) w b Ybaf.underlying27 Ybaf.underlying65 hi hcmp hj
  have hty := run_eql_iface_types (P := Ybaf.prog) 64 65 (.pointer (some ⟨pb, po, none⟩)) (.pointer (some b)) Ybaf.underlying27 (by decide) w
  go_enter Ybaf.func7, Ybaf.ntmps7
  go_wp2
  refine wp_loop_rounds 2 ?_
  rw [rounds_succ]
  go_wp2
  rw [rounds_succ]
  go_wp2
  go_ret
  exact ⟨rfl, rfl⟩
end Go.Proofs.YbulkavcyFmt

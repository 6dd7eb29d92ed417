import Derived.Test.YbulkavfqFmtRows
import Derived.WalkKit
import Derived.LaidEql
import Derived.Stop.Asserts
import Derived.RowKitTokens
namespace Go.Proofs.YbulkavfqFmt
open Go.RowKit Go.Extern.Stop Go.Stop Go.Extern

theorem isTypeOf (v : Value) (w : World) : (callFunc 9 #[.iface 61 v]).run Ybaf.prog w = .ok (.value (.iface 51 (.agg #[.pointer (some ⟨2, 61, none⟩)]))) w := by kernel_rfl
theorem isComparable (w : World) : (callFunc 36 #[.agg #[.pointer (some ⟨2, 61, none⟩)]]).run Ybaf.prog w = .ok (.value (.bool true)) w := by kernel_rfl
theorem isMethodComparable (v : Value) (w : World) : (Go.method 203 51 v "Comparable").run Ybaf.prog w = .ok (36, v) w := by kernel_rfl
theorem methodUnwrap (v : Value) (w : World) : (Go.method 203 49 v "Unwrap").run Ybaf.prog w = .ok (32, v) w := by kernel_rfl
theorem isComp : (Ybaf.prog.info? 61).map (·.comparable) = some true := by kernel_rfl
theorem isSize : (Ybaf.prog.info? 63).map (·.size) = some 1 := by kernel_rfl
theorem noIsW (v : Value) (xT : TypeId) (w : World) : (Instr.typeAssert (.iface 49 v) xT 53 true).run Ybaf.prog w = .ok (.tuple #[.nilIface, .bool false]) w := run_typeAssert_lacksB Ybaf.underlying53 (by kernel_rfl) (by kernel_rfl) v xT w
theorem hasUnwrapW (v : Value) (xT : TypeId) (w : World) : (Instr.typeAssert (.iface 49 v) xT 56 true).run Ybaf.prog w = .ok (.tuple #[.iface 49 v, .bool true]) w := run_typeAssert_hasB Ybaf.underlying56 (by kernel_rfl) v xT w

set_option maxHeartbeats 400000 in
theorem is_wrap_same (pb po : Nat) (b : Addr) (w : World) (h1 : w.cell? ⟨pb, po + 1, none⟩ = some (.iface 61 (.pointer (some b)))) :
    Calls Ybaf.prog 5 #[.iface 49 (.pointer (some ⟨pb, po, none⟩)), .iface 61 (.pointer (some b))] w fun e w' => e = .returned (.bool true) ∧ w' = w := by
  obtain ⟨i, hi, hcmp⟩ := Option.map_eq_some_iff.1 isComp
  obtain ⟨j, hj, hjs⟩ := Option.map_eq_some_iff.1 isSize
  have mR := isMethodComparable
  have mU := methodUnwrap
  have tT := isTypeOf
  have cT := isComparable
  have nW := noIsW
  have uW := hasUnwrapW
  have heq := run_eql_iface_ptr_same (P := Ybaf.prog) w b Ybaf.underlying29 Ybaf.underlying61 hi hcmp hj
  have hty := run_eql_iface_types (P := Ybaf.prog) 49 61 (.pointer (some ⟨pb, po, none⟩)) (.pointer (some b)) Ybaf.underlying29 (by decide) w
  go_enter Ybaf.func5, Ybaf.ntmps5
  go_wp2
  refine wp_loop_rounds 2 ?_
  rw [rounds_succ]
  go_wp2
  rw [rounds_succ]
  go_wp2
  go_ret
  exact ⟨rfl, rfl⟩
end Go.Proofs.YbulkavfqFmt

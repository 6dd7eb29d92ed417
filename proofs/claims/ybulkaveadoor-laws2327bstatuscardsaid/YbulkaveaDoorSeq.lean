import Derived.Test.YbulkaveaDoorRows
import Derived.WalkKit
import Derived.WalkSpells
import Derived.WalkLawsBesides
import Derived.Below
import Derived.Deep.RegionHeld
import Derived.Deep.QuietTactic
namespace Go.Proofs.YbulkaveaDoor
open Go.RowKit
set_option linter.unusedVariables false

set_option maxHeartbeats 400000 in
theorem spent_any (Q : Nat) (x : Bool) (r : Int) (w : World) (c10 : w.cell? ⟨Q, 10, none⟩ = some (.bool x)) (c14 : w.cell? ⟨Q, 14, none⟩ = some (.int .i64 r)) :
    Calls Ybad.prog 17 #[.pointer (some ⟨Q, 0, none⟩)] w fun e w' => e = .returned (.bool (x && decide (r = 0))) ∧ w' = w := by
  cases x
  all_goals (go_enter Ybad.func17, Ybad.ntmps17; go_wp2; go_ret; exact ⟨rfl, rfl⟩)

/-- The program's own count of the steps from 'next' to the bound, as the law writes it too. -/
def steps (inc lo hi next : Int) : Int :=
  if 0 < inc then IntKind.u64.wrap ((IntKind.u64.wrap (IntKind.u64.wrap hi - IntKind.u64.wrap next)).tdiv inc)
  else IntKind.u64.wrap ((IntKind.u64.wrap (IntKind.u64.wrap next - IntKind.u64.wrap lo)).tdiv (IntKind.u64.wrap (- IntKind.u64.wrap inc)))

set_option maxHeartbeats 400000 in
theorem steps_any (start inc lo hi cache : Int) (cy ord : Bool) (next : Int) (w : World) (h0 : inc ≠ 0) (h1 : -9223372036854775808 ≤ inc) (h2 : inc ≤ 9223372036854775807) :
    Calls Ybad.prog 20 #[.agg #[.int .i64 start, .int .i64 inc, .int .i64 lo, .int .i64 hi, .int .i64 cache, .bool cy, .bool ord], .int .i64 next] w fun e w' => e = .returned (.int .u64 (steps inc lo hi next)) ∧ w' = w.alloc (.cells #[.int .i64 start, .int .i64 inc, .int .i64 lo, .int .i64 hi, .int .i64 cache, .bool cy, .bool ord] 27) := by
  by_cases hp : 0 < inc
  · have e1 : decide (inc > 0) = true := by simp; omega
    have n1 : IntKind.u64.wrap inc ≠ 0 := by simp [IntKind.wrap, IntKind.bits, IntKind.signed]; omega
    go_enter Ybad.func20, Ybad.ntmps20
    go_wp2
    go_ret
    exact ⟨by simp [steps, hp], rfl⟩
  · have e1 : decide (inc > 0) = false := by simp; omega
    have n1 : IntKind.u64.wrap (- IntKind.u64.wrap inc) ≠ 0 := by simp [IntKind.wrap, IntKind.bits, IntKind.signed]; omega
    go_enter Ybad.func20, Ybad.ntmps20
    go_wp2
    go_ret
    exact ⟨by simp [steps, show ¬ 0 < inc by omega], rfl⟩
end Go.Proofs.YbulkaveaDoor

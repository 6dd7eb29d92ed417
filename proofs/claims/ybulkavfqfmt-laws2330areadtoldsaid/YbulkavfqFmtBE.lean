import Derived.Test.YbulkavfqFmtErrorf
import Derived.Deep.QuietTactic
import Derived.BigQuiet
import Derived.Lib.EndianBits
namespace Go.Proofs.YbulkavfqFmt
open Go.RowKit
set_option linter.unusedVariables false

theorem ret_int {k : IntKind} {a b : Int} (h : a = b) : Ending.returned (.int k a) = .returned (.int k b) := by rw [h]
theorem be_sum (b0 b1 b2 b3 : Int) (l0 : 0 ≤ b0) (l1 : 0 ≤ b1) (l2 : 0 ≤ b2) (l3 : 0 ≤ b3) (u0 : b0 < 256) (u1 : b1 < 256) (u2 : b2 < 256) (u3 : b3 < 256) :
    bits .or .u32 (bits .or .u32 (bits .or .u32 b3 (b2 * 256)) (b1 * 65536)) (b0 * 16777216) = b0 * 16777216 + b1 * 65536 + b2 * 256 + b3 := by
  rw [u32_or8 b3 (b2 * 256) l3 u3 (by omega) (by omega) (by omega), u32_or16 (b3 + b2 * 256) (b1 * 65536) (by omega) (by omega) (by omega) (by omega) (by omega), u32_or24 (b3 + b2 * 256 + b1 * 65536) (b0 * 16777216) (by omega) (by omega) (by omega) (by omega) (by omega)]
  omega
theorem wraps_i64 (n : Int) (h0 : 0 ≤ n) (h1 : n < 2 ^ 62) : IntKind.i64.wrap n = n := by
  simp [IntKind.wrap, IntKind.bits, IntKind.signed]; omega
/-- The same sum as the law writes it, on int, the greatest byte first. -/
theorem int_sum (b0 b1 b2 b3 : Int) (l0 : 0 ≤ b0) (l1 : 0 ≤ b1) (l2 : 0 ≤ b2) (l3 : 0 ≤ b3) (u0 : b0 < 256) (u1 : b1 < 256) (u2 : b2 < 256) (u3 : b3 < 256) :
    bits .or .i64 (bits .or .i64 (bits .or .i64 (b0 * 16777216) (b1 * 65536)) (b2 * 256)) b3 = b0 * 16777216 + b1 * 65536 + b2 * 256 + b3 := by
  rw [bits_join .i64 62 (by decide) wraps_i64 24 (b0 * 16777216) (b1 * 65536) (by omega) (by omega) (by omega) (by omega) (by omega) (by omega),
    bits_join .i64 62 (by decide) wraps_i64 16 (b0 * 16777216 + b1 * 65536) (b2 * 256) (by omega) (by omega) (by omega) (by omega) (by omega) (by omega),
    bits_join .i64 62 (by decide) wraps_i64 8 (b0 * 16777216 + b1 * 65536 + b2 * 256) b3 (by omega) (by omega) (by omega) (by omega) (by omega) (by omega)]

set_option maxHeartbeats 2000000 in
theorem be_any (g p c : Nat) (b0 b1 b2 b3 : Int) (w : World) (c0 : w.cell? ⟨g, p, none⟩ = some (.int .u8 b0)) (c1 : w.cell? ⟨g, p + 1, none⟩ = some (.int .u8 b1)) (c2 : w.cell? ⟨g, p + 2, none⟩ = some (.int .u8 b2)) (c3 : w.cell? ⟨g, p + 3, none⟩ = some (.int .u8 b3))
    (l0 : 0 ≤ b0) (l1 : 0 ≤ b1) (l2 : 0 ≤ b2) (l3 : 0 ≤ b3) (u0 : b0 < 256) (u1 : b1 < 256) (u2 : b2 < 256) (u3 : b3 < 256) :
    Calls Ybaf.prog 7 #[.agg #[], .slice (some ⟨g, p, none⟩) 4 c] w fun e w' => e = .returned (.int .u32 (b0 * 16777216 + b1 * 65536 + b2 * 256 + b3)) ∧ Below w.heap.size w w' := by
  have zg : g < w.heap.size := World.block_lt_of_cell? w _ c0
  go_enter Ybaf.func7, Ybaf.ntmps7
  go_wp2
  go_quiet (fail)
  go_wp2
  go_ret
  refine ⟨ret_int ?_, below_drewN ((Below.refl _ _).alloc (Nat.le_refl _) _) _⟩
  exact be_sum b0 b1 b2 b3 l0 l1 l2 l3 u0 u1 u2 u3
end Go.Proofs.YbulkavfqFmt

import Derived.Test.YbulkavfqFmtTake
import Derived.Test.YbulkavfqFmtBE
import Derived.Test.YbulkavfqFmtIs
import Derived.Lib.SliceRun
namespace Go.Proofs.YbulkavfqFmt
open Go.RowKit Go.Extern.Stop Go.Stop Go.Extern
set_option linter.unusedVariables false

set_option maxHeartbeats 1000000 in
theorem u32_bad (F : Interp) (D : Nat) (a0 : Option Addr) (len cap o : Nat) (a : Addr) (s : ByteArray) (w : World) (hF : F.answers w.tape) (hg : w.cell? ⟨0, 0, none⟩ = some (.iface 61 (.pointer (some a)))) (hs : w.cell? a = some (.string s))
    (d0 : w.cell? ⟨D, 0, none⟩ = some (.slice a0 len cap)) (d1 : w.cell? ⟨D, 1, none⟩ = some (.int .i64 o)) (hl : len ≤ 1048576) (ho : o ≤ len) (hb : len < o + 4) :
    Calls Ybaf.prog 4 #[.pointer (some ⟨D, 0, none⟩)] w
      fun e w' => ∃ N, e = .returned (.tuple #[.int .i64 0, .iface 49 (.pointer (some ⟨N, 0, none⟩))]) ∧ w'.cell? ⟨N, 1, none⟩ = some (.iface 61 (.pointer (some a))) ∧ w.heap.size ≤ N ∧ N < w'.heap.size ∧ Below w.heap.size w w' := by
  go_enter Ybaf.func4, Ybaf.ntmps4
  go_wp2_with fail
  refine (take_bad F D a0 len cap o a s _ hF hg hs d0 d1 hl ho hb).mono ?_
  rintro e w' ⟨N, rfl, hN, hNg, hNl, hbel⟩
  go_wp2
  go_ret2
  exact ⟨N, rfl, hN, hNg, hNl, hbel⟩

set_option maxHeartbeats 1000000 in
theorem u32_ok (D g p len cap o : Nat) (b0 b1 b2 b3 : Int) (w : World) (d0 : w.cell? ⟨D, 0, none⟩ = some (.slice (some ⟨g, p, none⟩) len cap)) (d1 : w.cell? ⟨D, 1, none⟩ = some (.int .i64 o)) (fD : w.frozen? ⟨D, 1, none⟩ = false) (hgD : g < D)
    (hl : len ≤ 1048576) (hlc : len ≤ cap) (hcap : cap ≤ 9223372036854775807) (hb : o + 4 ≤ len)
    (c0 : w.cell? ⟨g, p + o, none⟩ = some (.int .u8 b0)) (c1 : w.cell? ⟨g, p + o + 1, none⟩ = some (.int .u8 b1)) (c2 : w.cell? ⟨g, p + o + 2, none⟩ = some (.int .u8 b2)) (c3 : w.cell? ⟨g, p + o + 3, none⟩ = some (.int .u8 b3))
    (l0 : 0 ≤ b0) (l1 : 0 ≤ b1) (l2 : 0 ≤ b2) (l3 : 0 ≤ b3) (u0 : b0 < 256) (u1 : b1 < 256) (u2 : b2 < 256) (u3 : b3 < 256) :
    Calls Ybaf.prog 4 #[.pointer (some ⟨D, 0, none⟩)] w
      fun e w' => e = .returned (.tuple #[.int .i64 (b0 * 16777216 + b1 * 65536 + b2 * 256 + b3), .nilIface]) ∧ ∃ q, Below w.heap.size ((w.drewN q).setCell ⟨D, 1, none⟩ (.int .i64 (o + 4))) w' := by
  go_enter Ybaf.func4, Ybaf.ntmps4
  go_wp2_with fail
  refine (take_ok D g p len cap o _ d0 d1 fD hl hlc hcap hb).mono ?_
  rintro e w1 ⟨rfl, q, hw1⟩
  have k0 : w1.cell? ⟨g, p + o, none⟩ = some (.int .u8 b0) := by rw [hw1, World.cell?_setCell_other]; simpa using c0; simp
  have k1 : w1.cell? ⟨g, p + o + 1, none⟩ = some (.int .u8 b1) := by rw [hw1, World.cell?_setCell_other]; simpa using c1; simp
  have k2 : w1.cell? ⟨g, p + o + 2, none⟩ = some (.int .u8 b2) := by rw [hw1, World.cell?_setCell_other]; simpa using c2; simp
  have k3 : w1.cell? ⟨g, p + o + 3, none⟩ = some (.int .u8 b3) := by rw [hw1, World.cell?_setCell_other]; simpa using c3; simp
  have hz : w1.heap.size = w.heap.size := by rw [hw1]; simp
  have HW : Hid (w1 = (w.drewN q).setCell ⟨D, 1, none⟩ (.int .i64 (o + 4))) := hw1
  clear hw1
  go_wp2_with (go_at_call 7; refine (be_any g (p + o) (cap - o) b0 b1 b2 b3 _ k0 k1 k2 k3 l0 l1 l2 l3 u0 u1 u2 u3).mono ?_; rintro e w2 ⟨rfl, hb2⟩)
  go_ret2
  refine ⟨rfl, q, ?_⟩
  rw [← HW.out, ← hz]
  exact hb2

theorem nil_nil (w : World) : (binOp .eql 25 (.slice none 0 0) (.slice none 0 0)).run Ybaf.prog w = .ok (.bool true) w :=
  Lib.run_eql_slice_nil (P := Ybaf.prog) w 25 3 none 0 0 0 0 Ybaf.underlying25
theorem cells4 (w : World) (a b c d : Value) (t : TypeId) : (w.alloc (.cells #[a, b, c, d] t)).cell? ⟨w.heap.size, 0, none⟩ = some a ∧ (w.alloc (.cells #[a, b, c, d] t)).cell? ⟨w.heap.size, 1, none⟩ = some b ∧
    (w.alloc (.cells #[a, b, c, d] t)).cell? ⟨w.heap.size, 2, none⟩ = some c ∧ (w.alloc (.cells #[a, b, c, d] t)).cell? ⟨w.heap.size, 3, none⟩ = some d := by
  simp [go_sem]

set_option maxHeartbeats 400000 in
theorem read_long (a0 : Option Addr) (len cap : Nat) (off : Int) (w : World) (h : 1048576 < len) (hm : len ≤ 9223372036854775807) :
    Calls Ybaf.prog 3 #[.slice a0 len cap, .int .u64 off] w fun e w' => e = .returned (.bool true) ∧ Below w.heap.size w w' := by
  go_enter Ybaf.func3, Ybaf.ntmps3
  go_wp2
  go_ret
  exact ⟨rfl, Below.refl _ _⟩

set_option maxHeartbeats 1000000 in
theorem read_bad (F : Interp) (a0 : Option Addr) (len cap o : Nat) (off : Int) (a : Addr) (s : ByteArray) (w : World) (hF : F.answers w.tape) (hg : w.cell? ⟨0, 0, none⟩ = some (.iface 61 (.pointer (some a)))) (hs : w.cell? a = some (.string s))
    (hl : len ≤ 1048576) (h0 : 0 ≤ off) (h1 : off ≤ 18446744073709551615) (hm : off % ((len : Int) + 1) = (o : Int)) (ho : o ≤ len) (hb : len < o + 4) :
    Calls Ybaf.prog 3 #[.slice a0 len cap, .int .u64 off] w fun e w' => e = .returned (.bool true) ∧ Below w.heap.size w w' := by
  have z0 : 0 < w.heap.size := World.block_lt_of_cell? w _ hg
  have hnil := nil_nil
  go_enter Ybaf.func3, Ybaf.ntmps3
  go_wp2_with fail
  obtain ⟨e0, e1, e2, e3⟩ := cells4 w (.slice a0 len cap) (.int .i64 o) (.int .i64 0) (.slice none 0 0) 27
  refine (u32_bad F w.heap.size a0 len cap o a s _ (by exact hF) (cell_up hg _) (cell_up hs _) e0 e1 hl ho hb).mono ?_
  rintro e w1 ⟨N, rfl, hN, hNg, hNl, hb1⟩
  rw [World.size_alloc] at hNg hb1
  have z1 : w.heap.size < w1.heap.size := by omega
  have k1 : w1.cell? ⟨0, 0, none⟩ = some (.iface 61 (.pointer (some a))) := (hb1.cell (p := ⟨0, 0, none⟩) (by show 0 < _; omega)).trans (cell_up hg _)
  have q1 : w1.cell? ⟨w.heap.size, 1, none⟩ = some (.int .i64 o) := (hb1.cell (p := ⟨w.heap.size, 1, none⟩) (Nat.lt_succ_self _)).trans e1
  have q2 : w1.cell? ⟨w.heap.size, 2, none⟩ = some (.int .i64 0) := (hb1.cell (p := ⟨w.heap.size, 2, none⟩) (Nat.lt_succ_self _)).trans e2
  have q3 : w1.cell? ⟨w.heap.size, 3, none⟩ = some (.slice none 0 0) := (hb1.cell (p := ⟨w.heap.size, 3, none⟩) (Nat.lt_succ_self _)).trans e3
  clear e0 e1 e2 e3
  go_wp2_with (go_at_call 5; refine (is_wrap_same N 0 a _ hN).mono ?_; rintro e w2 ⟨rfl, rfl⟩)
  go_ret
  exact ⟨rfl, ((Below.refl _ _).alloc (Nat.le_refl _) _).trans (hb1.mono (by omega))⟩

set_option maxHeartbeats 2000000 in
theorem read_ok (g p len cap o : Nat) (off : Int) (b0 b1 b2 b3 : Int) (w : World)
    (hl : len ≤ 1048576) (hlc : len ≤ cap) (hcap : cap ≤ 9223372036854775807) (h0 : 0 ≤ off) (h1 : off ≤ 18446744073709551615) (hm : off % ((len : Int) + 1) = (o : Int)) (hb : o + 4 ≤ len)
    (c0 : w.cell? ⟨g, p + o, none⟩ = some (.int .u8 b0)) (c1 : w.cell? ⟨g, p + (o + 1), none⟩ = some (.int .u8 b1)) (c2 : w.cell? ⟨g, p + (o + 2), none⟩ = some (.int .u8 b2)) (c3 : w.cell? ⟨g, p + (o + 3), none⟩ = some (.int .u8 b3))
    (l0 : 0 ≤ b0) (l1 : 0 ≤ b1) (l2 : 0 ≤ b2) (l3 : 0 ≤ b3) (u0 : b0 < 256) (u1 : b1 < 256) (u2 : b2 < 256) (u3 : b3 < 256) :
    Calls Ybaf.prog 3 #[.slice (some ⟨g, p, none⟩) len cap, .int .u64 off] w fun e w' => e = .returned (.bool true) ∧ Below w.heap.size w w' := by
  have zg : g < w.heap.size := World.block_lt_of_cell? w _ c0
  have hnil := nil_nil
  have hsum := int_sum b0 b1 b2 b3 l0 l1 l2 l3 u0 u1 u2 u3
  go_enter Ybaf.func3, Ybaf.ntmps3
  go_wp2_with fail
  obtain ⟨e0, e1, e2, e3⟩ := cells4 w (.slice (some ⟨g, p, none⟩) len cap) (.int .i64 o) (.int .i64 0) (.slice none 0 0) 27
  refine (u32_ok w.heap.size g p len cap o b0 b1 b2 b3 _ e0 e1 (by simp [go_sem]) zg hl hlc hcap hb (cell_up c0 _) (cell_up c1 _) (cell_up c2 _) (cell_up c3 _) l0 l1 l2 l3 u0 u1 u2 u3).mono ?_
  rintro e w1 ⟨rfl, q, hb1⟩
  rw [World.size_alloc] at hb1
  have hB : Hid (Below w.heap.size w w1) := ((below_drewN ((Below.refl _ w).alloc (Nat.le_refl _) _) q).setCell (Nat.le_refl _) _).trans (hb1.mono (by omega))
  have far : ∀ (x : Addr) (v : Value), x.block < w.heap.size + 1 → x ≠ ⟨w.heap.size, 1, none⟩ → (w.alloc (.cells #[.slice (some ⟨g, p, none⟩) len cap, .int .i64 o, .int .i64 0, .slice none 0 0] 27)).cell? x = some v → w1.cell? x = some v := by
    intro x v hx hne hc
    rw [hb1.cell hx, World.cell?_setCell_other _ _ _ _ (fun h => hne h.symm)]
    simpa using hc
  have q1 : w1.cell? ⟨w.heap.size, 1, none⟩ = some (.int .i64 (o + 4)) := by
    rw [hb1.cell (p := ⟨w.heap.size, 1, none⟩) (Nat.lt_succ_self _)]
    exact World.cell?_setCell_same _ _ _ (u := .int .i64 o) (by simp)
  have q2 := far ⟨w.heap.size, 2, none⟩ _ (Nat.lt_succ_self _) (by simp) e2
  have q3 := far ⟨w.heap.size, 3, none⟩ _ (Nat.lt_succ_self _) (by simp) e3
  have k0 := far ⟨g, p + o, none⟩ _ (by show g < _; omega) (fun h => absurd (congrArg Addr.block h) (Nat.ne_of_lt zg)) (cell_up c0 _)
  have k1 := far ⟨g, p + (o + 1), none⟩ _ (by show g < _; omega) (fun h => absurd (congrArg Addr.block h) (Nat.ne_of_lt zg)) (cell_up c1 _)
  have k2 := far ⟨g, p + (o + 2), none⟩ _ (by show g < _; omega) (fun h => absurd (congrArg Addr.block h) (Nat.ne_of_lt zg)) (cell_up c2 _)
  have k3 := far ⟨g, p + (o + 3), none⟩ _ (by show g < _; omega) (fun h => absurd (congrArg Addr.block h) (Nat.ne_of_lt zg)) (cell_up c3 _)
  clear far hb1 e0 e1 e2 e3
  go_wp2
  go_quiet (fail)
  go_wp2
  go_ret
  exact ⟨rfl, below_drewN hB.out _⟩
end Go.Proofs.YbulkavfqFmt

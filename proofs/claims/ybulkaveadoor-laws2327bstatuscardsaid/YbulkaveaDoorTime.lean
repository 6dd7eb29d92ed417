import Derived.Test.YbulkaveaDoorRows
import Derived.WalkKit
import Derived.WalkSpells
import Derived.WalkLawsBesides
import Derived.Below
import Derived.Deep.RegionHeld
import Derived.BigQuiet
import Derived.Deep.QuietTactic
namespace Go.Proofs.YbulkaveaDoor
open Go.RowKit
set_option linter.unusedVariables false

theorem and0m : bits .and .u64 0 9223372036854775808 = 0 := by decide +kernel
theorem and0n : bits .and .u64 0 1073741823 = 0 := by decide +kernel

set_option maxHeartbeats 400000 in
theorem nsec_any (T : Nat) (w : World) (c0 : w.cell? ⟨T, 0, none⟩ = some (.int .u64 0)) :
    Calls Ybad.prog 12 #[.pointer (some ⟨T, 0, none⟩)] w fun e w' => e = .returned (.int .i32 0) ∧ w' = w := by
  have h1 := and0n
  go_enter Ybad.func12, Ybad.ntmps12
  go_wp2
  go_ret
  exact ⟨rfl, rfl⟩

set_option maxHeartbeats 400000 in
theorem sec_any (T : Nat) (x : Int) (w : World) (c0 : w.cell? ⟨T, 0, none⟩ = some (.int .u64 0)) (c1 : w.cell? ⟨T, 1, none⟩ = some (.int .i64 x)) :
    Calls Ybad.prog 31 #[.pointer (some ⟨T, 0, none⟩)] w fun e w' => e = .returned (.int .i64 x) ∧ w' = w := by
  have h1 := and0m
  go_enter Ybad.func31, Ybad.ntmps31
  go_wp2
  go_ret
  exact ⟨rfl, rfl⟩

set_option maxHeartbeats 400000 in
theorem addSec_any (T : Nat) (x d : Int) (w : World) (c0 : w.cell? ⟨T, 0, none⟩ = some (.int .u64 0)) (c1 : w.cell? ⟨T, 1, none⟩ = some (.int .i64 x)) (f1 : w.frozen? ⟨T, 1, none⟩ = false)
    (x0 : 0 ≤ x) (x1 : x ≤ 10000000000) (d0 : 0 ≤ d) (d1 : d ≤ 10000000000) :
    Calls Ybad.prog 13 #[.pointer (some ⟨T, 0, none⟩), .int .i64 d] w fun e w' => e = .returned (.tuple #[]) ∧ w' = w.setCell ⟨T, 1, none⟩ (.int .i64 (x + d)) := by
  have h1 := and0m
  by_cases hd : 0 < d
  · have e1 : decide (x < x + d) = true := by simp; omega
    have e2 : decide (0 < d) = true := by simp; omega
    go_enter Ybad.func13, Ybad.ntmps13
    go_wp2
    go_end0
    exact ⟨rfl, rfl⟩
  · have e1 : decide (x < x + d) = false := by simp; omega
    have e2 : decide (0 < d) = false := by simp; omega
    go_enter Ybad.func13, Ybad.ntmps13
    go_wp2
    go_end0
    exact ⟨rfl, rfl⟩

/-- A time.Time with no monotonic part and no place, e seconds after year 1. -/
def tv (e : Int) : Value := .agg #[.int .u64 0, .int .i64 e, .pointer none]

theorem andnot0 : bits .andNot .u64 0 1073741823 = 0 := by decide +kernel
theorem or00 : bits .or .u64 0 0 = 0 := by decide +kernel

set_option maxHeartbeats 1000000 in
theorem tadd_any (x d : Int) (w : World) (x0 : 0 ≤ x) (x1 : x ≤ 5000000000) (d0 : 0 ≤ d) (d1 : d ≤ 5000000000) :
    Calls Ybad.prog 5 #[.agg #[.int .u64 0, .int .i64 x, .pointer none], .int .i64 (d * 1000000000)] w fun e w' => e = .returned (.agg #[.int .u64 0, .int .i64 (x + d), .pointer none]) ∧ w' = (w.alloc (.cells #[.int .u64 0, .int .i64 (x + d), .pointer none] 43)).alloc (.cells #[.int .u64 0, .int .i64 (x + d), .pointer none] 43) := by
  have h1 := and0m
  have h2 := and0n
  have h3 := andnot0
  have h4 := or00
  have q1 : d * 1000000000 / 1000000000 = d := by omega
  have q2 : d * 1000000000 % 1000000000 = 0 := by omega
  go_enter Ybad.func5, Ybad.ntmps5
  go_wp2_with (first | (go_at_call 12; refine (nsec_any w.heap.size _ (by simp [go_sem])).mono ?_; rintro e w' ⟨rfl, rfl⟩))
  refine (addSec_any w.heap.size x d _ (by simp [go_sem]) (by simp [go_sem]) (by simp [go_sem]) x0 (by omega) d0 (by omega)).mono ?_
  rintro e w1 ⟨rfl, hw1⟩
  have hw1' : w1 = (w.alloc (.cells #[.int .u64 0, .int .i64 (x + d), .pointer none] 43)).alloc (.cells #[.int .u64 0, .int .i64 0, .pointer none] 43) := by rw [hw1]; simp [go_sem]
  subst hw1'
  clear hw1
  go_wp2
  exact bodyPost_ret (v := .agg #[.int .u64 0, .int .i64 (x + d), .pointer none]) (by simp [results, Ybad.results5, go_sem]) rfl ⟨rfl, rfl⟩

theorem tadd_to (x d y : Int) (w : World) (x0 : 0 ≤ x) (x1 : x ≤ 5000000000) (d0 : 0 ≤ d) (d1 : d ≤ 5000000000) (h : x + d = y) :
    Calls Ybad.prog 5 #[.agg #[.int .u64 0, .int .i64 x, .pointer none], .int .i64 (d * 1000000000)] w fun e w' => e = .returned (.agg #[.int .u64 0, .int .i64 y, .pointer none]) ∧ w' = (w.alloc (.cells #[.int .u64 0, .int .i64 y, .pointer none] 43)).alloc (.cells #[.int .u64 0, .int .i64 y, .pointer none] 43) := by
  rw [← h]; exact tadd_any x d w x0 x1 d0 d1

set_option maxHeartbeats 1000000 in
theorem teq_any (x : Int) (w : World) :
    Calls Ybad.prog 59 #[.agg #[.int .u64 0, .int .i64 x, .pointer none], .agg #[.int .u64 0, .int .i64 x, .pointer none]] w fun e w' => e = .returned (.bool true) ∧ w' = (w.alloc (.cells #[.int .u64 0, .int .i64 x, .pointer none] 43)).alloc (.cells #[.int .u64 0, .int .i64 x, .pointer none] 43) := by
  have h1 := and0m
  have h2 : bits .and .u64 0 0 = 0 := by decide +kernel
  go_enter Ybad.func59, Ybad.ntmps59
  go_wp2_with fail
  refine (sec_any w.heap.size x _ (by simp [go_sem]) (by simp [go_sem])).mono ?_
  rintro e w' ⟨rfl, rfl⟩
  go_wp2_with fail
  refine (sec_any (w.heap.size + 1) x _ (by simp [go_sem]) (by simp [go_sem])).mono ?_
  rintro e w' ⟨rfl, rfl⟩
  go_wp2_with fail
  refine (nsec_any w.heap.size _ (by simp [go_sem])).mono ?_
  rintro e w' ⟨rfl, rfl⟩
  go_wp2_with fail
  refine (nsec_any (w.heap.size + 1) _ (by simp [go_sem])).mono ?_
  rintro e w' ⟨rfl, rfl⟩
  go_wp2
  go_ret
  exact ⟨rfl, rfl⟩

theorem bcell {W w1 : World} (hb : Below W.heap.size W w1) : (∀ b o, b < W.heap.size → w1.cell? ⟨b, o, none⟩ = W.cell? ⟨b, o, none⟩) ∧ (∀ b o, b < W.heap.size → w1.frozen? ⟨b, o, none⟩ = W.frozen? ⟨b, o, none⟩) :=
  ⟨fun b o h => hb.cell (p := ⟨b, o, none⟩) h, fun b o h => hb.frozen (p := ⟨b, o, none⟩) h⟩

set_option maxHeartbeats 1000000 in
theorem tsub_any (x : Int) (w : World) (x0 : 0 ≤ x) (x1 : x ≤ 4294967295) :
    Calls Ybad.prog 37 #[.agg #[.int .u64 0, .int .i64 x, .pointer none], .agg #[.int .u64 0, .int .i64 0, .pointer none]] w fun e w' => e = .returned (.int .i64 (x * 1000000000)) ∧ w' = ((((((w.alloc (.cells #[.int .u64 0, .int .i64 x, .pointer none] 43)).alloc (.cells #[.int .u64 0, .int .i64 0, .pointer none] 43)).alloc (.cells #[.int .u64 0, .int .i64 x, .pointer none] 43)).alloc (.cells #[.int .u64 0, .int .i64 x, .pointer none] 43)).alloc (.cells #[.int .u64 0, .int .i64 x, .pointer none] 43)).alloc (.cells #[.int .u64 0, .int .i64 x, .pointer none] 43)).drew := by
  have h1 := and0m
  have h2 : bits .and .u64 0 0 = 0 := by decide +kernel
  go_enter Ybad.func37, Ybad.ntmps37
  go_wp2_with fail
  refine (sec_any w.heap.size x _ (by simp [go_sem]) (by simp [go_sem])).mono ?_
  rintro e w' ⟨rfl, rfl⟩
  go_wp2_with fail
  refine (sec_any (w.heap.size + 1) 0 _ (by simp [go_sem]) (by simp [go_sem])).mono ?_
  rintro e w' ⟨rfl, rfl⟩
  go_wp2_with fail
  refine (nsec_any w.heap.size _ (by simp [go_sem])).mono ?_
  rintro e w' ⟨rfl, rfl⟩
  go_wp2_with fail
  refine (nsec_any (w.heap.size + 1) _ (by simp [go_sem])).mono ?_
  rintro e w' ⟨rfl, rfl⟩
  go_wp2
  go_region_held (fun w' => w'.cell? ⟨w.heap.size, 0, none⟩ = some (.int .u64 0) ∧ w'.cell? ⟨w.heap.size, 1, none⟩ = some (.int .i64 x) ∧ w'.cell? ⟨w.heap.size, 2, none⟩ = some (.pointer none) ∧
      w'.cell? ⟨w.heap.size + 1, 0, none⟩ = some (.int .u64 0) ∧ w'.cell? ⟨w.heap.size + 1, 1, none⟩ = some (.int .i64 0) ∧ w'.cell? ⟨w.heap.size + 1, 2, none⟩ = some (.pointer none)) ((first | (go_keep; done) | (simp [go_sem]; done) | (refine ⟨?_, ?_, ?_, ?_, ?_, ?_⟩ <;> first | (simp [go_sem]; done) | (simp [go_sem]; omega))))
    (first | (go_at_call 5; refine (tadd_to 0 x x _ (by omega) (by omega) x0 (by omega) (by omega)).mono ?_; rintro e w' ⟨rfl, rfl⟩) | (go_at_call 59; refine (teq_any x _).mono ?_; rintro e w' ⟨rfl, rfl⟩))
  go_wp2
  go_ret
  exact ⟨rfl, rfl⟩

/-- The law's clock: 'base.Add(now seconds)' with base the zero Time. -/
theorem now_any (B N : Nat) (x : Int) (w : World) (b0 : w.cell? ⟨B, 0, none⟩ = some (.int .u64 0)) (b1 : w.cell? ⟨B, 1, none⟩ = some (.int .i64 0)) (b2 : w.cell? ⟨B, 2, none⟩ = some (.pointer none)) (n0 : w.cell? ⟨N, 0, none⟩ = some (.int .i64 x))
    (x0 : 0 ≤ x) (x1 : x ≤ 4294967295) :
    Calls Ybad.prog 4 #[.pointer (some ⟨B, 0, none⟩), .pointer (some ⟨N, 0, none⟩)] w fun e w' => e = .returned (.agg #[.int .u64 0, .int .i64 x, .pointer none]) ∧ w' = (((w.alloc (.cells #[.int .u64 0, .int .i64 x, .pointer none] 43)).alloc (.cells #[.int .u64 0, .int .i64 x, .pointer none] 43)).alloc (.cells #[.int .u64 0, .int .i64 x, .pointer none] 43)) := by
  have zB : B < w.heap.size := World.block_lt_of_cell? w _ b0
  have zN : N < w.heap.size := World.block_lt_of_cell? w _ n0
  go_enter Ybad.func4, Ybad.ntmps4
  go_wp2_with (go_at_call 5; refine (tadd_to 0 x x _ (by omega) (by omega) x0 (by omega) (by omega)).mono ?_; rintro e w' ⟨rfl, rfl⟩)
  exact bodyPost_ret (v := .agg #[.int .u64 0, .int .i64 x, .pointer none]) (by simp [results, Ybad.results4, go_sem]) rfl ⟨rfl, rfl⟩

set_option maxHeartbeats 2000000 in
theorem seconds_any (S B N : Nat) (x : Int) (w : World) (s14 : w.cell? ⟨S, 14, none⟩ = some (.int .u64 0)) (s15 : w.cell? ⟨S, 15, none⟩ = some (.int .i64 0)) (s16 : w.cell? ⟨S, 16, none⟩ = some (.pointer none))
    (s17 : w.cell? ⟨S, 17, none⟩ = some (.func (.func 4) #[] #[.pointer (some ⟨B, 0, none⟩), .pointer (some ⟨N, 0, none⟩)]))
    (b0 : w.cell? ⟨B, 0, none⟩ = some (.int .u64 0)) (b1 : w.cell? ⟨B, 1, none⟩ = some (.int .i64 0)) (b2 : w.cell? ⟨B, 2, none⟩ = some (.pointer none)) (n0 : w.cell? ⟨N, 0, none⟩ = some (.int .i64 x))
    (x0 : 0 ≤ x) (x1 : x ≤ 4294967295) :
    Calls Ybad.prog 19 #[.pointer (some ⟨S, 0, none⟩)] w fun e w' => e = .returned (.int .i64 x) ∧ Below w.heap.size w w' := by
  have zS : S < w.heap.size := World.block_lt_of_cell? w _ s14
  have zB : B < w.heap.size := World.block_lt_of_cell? w _ b0
  have zN : N < w.heap.size := World.block_lt_of_cell? w _ n0
  have q1 : x * 1000000000 / 1000000000 = x := by omega
  have wx : IntKind.i64.wrap x = x := by simp [IntKind.wrap, IntKind.bits, IntKind.signed]; omega
  go_enter Ybad.func19, Ybad.ntmps19
  go_wp2
  have keepS : Hid (∀ w' : World, Below w.heap.size w w' → (Below w.heap.size w w' ∧ w'.cell? ⟨S, 14, none⟩ = some (.int .u64 0) ∧ w'.cell? ⟨S, 15, none⟩ = some (.int .i64 0) ∧ w'.cell? ⟨S, 16, none⟩ = some (.pointer none) ∧ w'.cell? ⟨S, 17, none⟩ = some (.func (.func 4) #[] #[.pointer (some ⟨B, 0, none⟩), .pointer (some ⟨N, 0, none⟩)]) ∧
      w'.cell? ⟨B, 0, none⟩ = some (.int .u64 0) ∧ w'.cell? ⟨B, 1, none⟩ = some (.int .i64 0) ∧ w'.cell? ⟨B, 2, none⟩ = some (.pointer none) ∧ w'.cell? ⟨N, 0, none⟩ = some (.int .i64 x))) := fun w' hb => ⟨hb, ((bcell hb).1 S 14 zS).trans s14, ((bcell hb).1 S 15 zS).trans s15, ((bcell hb).1 S 16 zS).trans s16, ((bcell hb).1 S 17 zS).trans s17, ((bcell hb).1 B 0 zB).trans b0, ((bcell hb).1 B 1 zB).trans b1, ((bcell hb).1 B 2 zB).trans b2, ((bcell hb).1 N 0 zN).trans n0⟩
  go_region_held (fun w' => Below w.heap.size w w' ∧ w'.cell? ⟨S, 14, none⟩ = some (.int .u64 0) ∧ w'.cell? ⟨S, 15, none⟩ = some (.int .i64 0) ∧ w'.cell? ⟨S, 16, none⟩ = some (.pointer none) ∧ w'.cell? ⟨S, 17, none⟩ = some (.func (.func 4) #[] #[.pointer (some ⟨B, 0, none⟩), .pointer (some ⟨N, 0, none⟩)]) ∧
      w'.cell? ⟨B, 0, none⟩ = some (.int .u64 0) ∧ w'.cell? ⟨B, 1, none⟩ = some (.int .i64 0) ∧ w'.cell? ⟨B, 2, none⟩ = some (.pointer none) ∧ w'.cell? ⟨N, 0, none⟩ = some (.int .i64 x)) ((refine keepS.out _ ?_; repeat (first | assumption | exact Below.refl _ _ | (refine And.left ?_; assumption) | refine Below.drew ?_ | refine Below.alloc ?_ (by simp <;> omega) _)))
    (first | (go_at_call 4; refine (now_any B N x _ (by assumption) (by assumption) (by assumption) (by assumption) x0 x1).mono ?_; rintro e w' ⟨rfl, rfl⟩) | (go_at_call 37; refine (tsub_any x _ x0 x1).mono ?_; rintro e w' ⟨rfl, rfl⟩))
  all_goals (go_wp2; go_ret; refine ⟨rfl, ?_⟩; repeat (first | assumption | exact Below.refl _ _ | refine Below.drew ?_ | refine Below.alloc ?_ (by simp <;> omega) _))
end Go.Proofs.YbulkaveaDoor

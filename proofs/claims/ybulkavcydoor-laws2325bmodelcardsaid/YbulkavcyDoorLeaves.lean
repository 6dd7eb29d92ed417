import Derived.Test.YbulkavcyDoorRows
import Derived.WalkKit
import Derived.WalkSpells
import Derived.WalkLawsBesides
import Derived.Below
namespace Go.Proofs.YbulkavcyDoor
open Go.RowKit
set_option linter.unusedVariables false

/-- Half up to a multiple of u. -/
def rh (v u : Int) : Int := if u ≤ 2 * (v % u) then v - v % u + u else v - v % u
def lost (v u : Int) : Bool := v % u != 0

theorem ret_ib {a b : Int} {c d : Bool} (h : a = b) (h' : c = d) : Ending.returned (.tuple #[.int .i64 a, .bool c]) = .returned (.tuple #[.int .i64 b, .bool d]) := by rw [h, h']
theorem ret_int {k : IntKind} {a b : Int} (h : a = b) : Ending.returned (.int k a) = .returned (.int k b) := by rw [h]

set_option maxHeartbeats 400000 in
theorem half_any (v u : Int) (w : World) (h0 : 0 ≤ v) (h1 : v ≤ 10000000000000) (hu0 : 1 ≤ u) (hu1 : u ≤ 1000000) :
    Calls Ybad.prog 8 #[.int .i64 v, .int .i64 u] w fun e w' => e = .returned (.tuple #[.int .i64 (rh v u), .bool (lost v u)]) ∧ w' = w := by
  have hm0 : 0 ≤ v % u := Int.emod_nonneg _ (by omega)
  have hm1 : v % u < u := Int.emod_lt_of_pos _ (by omega)
  by_cases hc : u ≤ 2 * (v % u)
  · have e : Hid (rh v u = v - v % u + u) := if_pos hc
    go_enter Ybad.func8, Ybad.ntmps8
    go_wp2
    go_ret2
    exact ⟨ret_ib e.out.symm rfl, rfl⟩
  · have e : Hid (rh v u = v - v % u) := if_neg hc
    go_enter Ybad.func8, Ybad.ntmps8
    go_wp2
    go_ret2
    exact ⟨ret_ib e.out.symm rfl, rfl⟩

set_option maxHeartbeats 400000 in
theorem micros_any (v u : Int) (p : Nat) (w : World) (hp : p ≤ 6) (h0 : 0 ≤ v) (h1 : v ≤ 10000000000000) (hu0 : 1 ≤ u) (hu1 : u ≤ 1000000) (hc : w.cell? ⟨0, 6 - p, none⟩ = some (.int .i64 u)) :
    Calls Ybad.prog 7 #[.int .i64 v, .int .i64 p] w fun e w' => e = .returned (.tuple #[.int .i64 (rh v u), .bool (lost v u)]) ∧ w' = w := by
  go_enter Ybad.func7, Ybad.ntmps7
  go_wp2_with (go_at_call 8; refine (half_any _ _ _ h0 h1 hu0 hu1).mono ?_; rintro e w' ⟨rfl, rfl⟩)
  go_ret2
  exact ⟨rfl, rfl⟩

/-- 10 to the power 6 - p. -/
def unit (p : Nat) : Int := 10 ^ (6 - p)
theorem unit_step (k : Nat) (h : k < 6) (p : Nat) (hp : p ≤ k) : (10 : Int) ^ (k + 1 - p) = 10 ^ (k - p) * 10 := by
  rw [show k + 1 - p = (k - p) + 1 by omega, Int.pow_succ]
theorem pow_bd (n : Nat) (h : n ≤ 6) : 1 ≤ (10 : Int) ^ n ∧ (10 : Int) ^ n ≤ 1000000 := by
  match n, h with
  | 0, _ => decide
  | 1, _ => decide
  | 2, _ => decide
  | 3, _ => decide
  | 4, _ => decide
  | 5, _ => decide
  | 6, _ => decide
def pw (n : Nat) : Int := 10 ^ n
theorem pw_bd (n : Nat) (h : n ≤ 6) : 1 ≤ pw n ∧ pw n ≤ 1000000 := pow_bd n h
theorem pw_succ (n : Nat) : pw (n + 1) = pw n * 10 := Int.pow_succ _ _

set_option maxHeartbeats 400000 in
theorem unit_any (p : Nat) (w : World) (hp : p ≤ 6) :
    Calls Ybad.prog 5 #[.int .i64 p] w fun e w' => e = .returned (.int .i64 (pw (6 - p))) ∧ w' = w := by
  go_enter Ybad.func5, Ybad.ntmps5
  go_wp2
  go_loop [3, 4] (fun u i => ∃ k : Nat, p ≤ k ∧ k ≤ 6 ∧ i = .int .i64 k ∧ u = .int .i64 (pw (k - p))) (fun _ i => 6 - (intOf i).toNat)
  case atStart => exact ⟨p, Nat.le_refl _, hp, rfl, by rw [Nat.sub_self]; rfl⟩
  case round =>
    obtain ⟨k, hk0, hk, rfl, rfl⟩ := hrel
    obtain ⟨hb0, hb1⟩ := pw_bd (k - p) (by omega)
    by_cases hlt : k < 6
    · have E : Hid (pw (k + 1 - p) = pw (k - p) * 10) := by
        show pw (k + 1 - p) = pw (k - p) * 10
        rw [show k + 1 - p = (k - p) + 1 by omega, pw_succ]
      go_wp2
      go_round
      case rel => exact ⟨k + 1, by omega, by omega, by go_num, by rw [E.out]⟩
      case measure => simp [intOf]; omega
    · have hk' : k = 6 := by omega
      subst hk'
      go_wp2
      go_ret
      exact ⟨rfl, rfl⟩


theorem rh_bd (v u : Int) (h0 : 0 ≤ v) (hu : 1 ≤ u) : 0 ≤ rh v u ∧ rh v u ≤ v + u := by
  have hm0 : 0 ≤ v % u := Int.emod_nonneg _ (by omega)
  have hm1 : v % u < u := Int.emod_lt_of_pos _ (by omega)
  have hm2 : v % u ≤ v := by
    have := Int.emod_add_mul_ediv v u
    have h2 : 0 ≤ u * (v / u) := Int.mul_nonneg (by omega) (Int.ediv_nonneg h0 (by omega))
    omega
  unfold rh
  split <;> omega

/-- The word that goes with a rounding. -/
def rounded : ByteArray := ⟨#[114, 111, 117, 110, 100, 101, 100]⟩
def exactly : ByteArray := ⟨#[101, 120, 97, 99, 116]⟩
def word (b : Bool) : ByteArray := if b then rounded else exactly

theorem cell_up {w : World} {a : Addr} {v : Value} (h : w.cell? a = some v) (o : Obj) : (w.alloc o).cell? a = some v :=
  (World.cell?_alloc_lt w o a (World.block_lt_of_cell? w a h)).trans h

/-- What round makes of m at p fraction digits: the magnitude half up, the sign kept; and whether a digit was lost. -/
def mag (m : Int) : Int := if m < 0 then -m else m
def rd (m : Int) (u : Int) : Int := if m < 0 then -(rh (mag m) u) else rh (mag m) u

theorem below3 (w : World) (a b c : Obj) : Below w.heap.size w (((w.alloc a).alloc b).alloc c) :=
  (((Below.refl _ _).alloc (Nat.le_refl _) _).alloc (by simp) _).alloc (by simp; omega) _

set_option maxHeartbeats 400000 in
theorem round_any (m prec : Int) (p : Nat) (w : World) (hp : p ≤ 6) (h0 : -4000000000000 ≤ m) (h1 : m ≤ 4000000000000) (hc : w.cell? ⟨0, 6 - p, none⟩ = some (.int .i64 (pw (6 - p)))) :
    Calls Ybad.prog 6 #[.agg #[.int .i64 m, .int .u8 prec], .int .i64 p] w fun e w' => e = .returned (.tuple #[.agg #[.int .i64 (rd m (pw (6 - p))), .int .u8 p], .string (word (lost (mag m) (pw (6 - p))))]) ∧ Below w.heap.size w w' := by
  obtain ⟨hu0, hu1⟩ := pw_bd (6 - p) (by omega)
  have hz : 0 < w.heap.size := World.block_lt_of_cell? w _ hc
  by_cases hm : m < 0
  · obtain ⟨hr0, hr1⟩ := rh_bd (-m) (pw (6 - p)) (by omega) hu0
    have em : mag m = -m := if_pos hm
    have er : Hid (rd m (pw (6 - p)) = -(rh (-m) (pw (6 - p)))) := by show rd m _ = _; unfold rd; rw [if_pos hm, em]
    rw [em]
    clear em
    cases hl : lost (-m) (pw (6 - p))
    all_goals
      go_enter Ybad.func6, Ybad.ntmps6
      go_wp2_with (go_at_call 7; refine (micros_any _ _ _ _ hp (by omega) (by omega) hu0 hu1 (cell_up (cell_up hc _) _)).mono ?_; rintro e w' ⟨rfl, rfl⟩)
      rw [er.out]
    · exact bodyPost_ret (v := .tuple #[.agg #[.int .i64 (-(rh (-m) (pw (6 - p)))), .int .u8 p], .string exactly]) (by simp [results, Ybad.results6, go_sem, exactly]) rfl ⟨rfl, below3 _ _ _ _⟩
    · exact bodyPost_ret (v := .tuple #[.agg #[.int .i64 (-(rh (-m) (pw (6 - p)))), .int .u8 p], .string rounded]) (by simp [results, Ybad.results6, go_sem, rounded]) rfl ⟨rfl, below3 _ _ _ _⟩
  · obtain ⟨hr0, hr1⟩ := rh_bd m (pw (6 - p)) (by omega) hu0
    have em : mag m = m := if_neg hm
    have er : Hid (rd m (pw (6 - p)) = rh m (pw (6 - p))) := by show rd m _ = _; unfold rd; rw [if_neg hm, em]
    rw [em]
    clear em
    cases hl : lost m (pw (6 - p))
    all_goals
      go_enter Ybad.func6, Ybad.ntmps6
      go_wp2_with (go_at_call 7; refine (micros_any _ _ _ _ hp (by omega) (by omega) hu0 hu1 (cell_up (cell_up hc _) _)).mono ?_; rintro e w' ⟨rfl, rfl⟩)
      rw [er.out]
    · exact bodyPost_ret (v := .tuple #[.agg #[.int .i64 (rh m (pw (6 - p))), .int .u8 p], .string exactly]) (by simp [results, Ybad.results6, go_sem, exactly]) rfl ⟨rfl, below3 _ _ _ _⟩
    · exact bodyPost_ret (v := .tuple #[.agg #[.int .i64 (rh m (pw (6 - p))), .int .u8 p], .string rounded]) (by simp [results, Ybad.results6, go_sem, rounded]) rfl ⟨rfl, below3 _ _ _ _⟩

end Go.Proofs.YbulkavcyDoor

import Derived.Test.YbulkavcyDoorLeaves
namespace Go.Proofs.YbulkavcyDoor
open Go.RowKit
set_option linter.unusedVariables false

theorem half_eq (n : Nat) (hn : n ≤ 6) (a : Int) (h0 : 0 ≤ a) : (a + pw n / 2) / pw n * pw n = rh a (pw n) := by
  unfold rh
  match n, hn with
  | 0, _ => rw [show pw 0 = 1 from rfl]; split <;> omega
  | 1, _ => rw [show pw 1 = 10 from rfl]; split <;> omega
  | 2, _ => rw [show pw 2 = 100 from rfl]; split <;> omega
  | 3, _ => rw [show pw 3 = 1000 from rfl]; split <;> omega
  | 4, _ => rw [show pw 4 = 10000 from rfl]; split <;> omega
  | 5, _ => rw [show pw 5 = 100000 from rfl]; split <;> omega
  | 6, _ => rw [show pw 6 = 1000000 from rfl]; split <;> omega

set_option maxHeartbeats 400000 in
theorem model_far (m prec pu : Int) (w : World) (h : m < -3020399000000 ∨ 3020399000000 < m) :
    Calls Ybad.prog 3 #[.int .i64 m, .int .u8 prec, .int .u8 pu] w fun e w' => e = .returned (.bool true) ∧ Below w.heap.size w w' := by
  rcases h with h | h
  · go_enter Ybad.func3, Ybad.ntmps3
    go_wp2
    go_ret
    exact ⟨rfl, Below.refl _ _⟩
  · have h' : ¬ m < -3020399000000 := by omega
    go_enter Ybad.func3, Ybad.ntmps3
    go_wp2
    go_ret
    exact ⟨rfl, Below.refl _ _⟩

theorem round_to (m prec : Int) (p : Nat) (r : Int) (s : ByteArray) (w : World) (hp : p ≤ 6) (h0 : -4000000000000 ≤ m) (h1 : m ≤ 4000000000000) (hc : w.cell? ⟨0, 6 - p, none⟩ = some (.int .i64 (pw (6 - p))))
    (er : rd m (pw (6 - p)) = r) (es : word (lost (mag m) (pw (6 - p))) = s) :
    Calls Ybad.prog 6 #[.agg #[.int .i64 m, .int .u8 prec], .int .i64 p] w fun e w' => e = .returned (.tuple #[.agg #[.int .i64 r, .int .u8 p], .string s]) ∧ Below w.heap.size w w' := by
  rw [← er, ← es]; exact round_any m prec p w hp h0 h1 hc

set_option maxHeartbeats 1000000 in
theorem model_pos (m prec pu : Int) (w : World) (h0 : 0 ≤ m) (h1 : m ≤ 3020399000000) (hpu0 : 0 ≤ pu) (hpu1 : pu < 256) (p : Nat) (hp6 : p ≤ 6) (hp : pu % 7 = p) (hc : w.cell? ⟨0, 6 - p, none⟩ = some (.int .i64 (pw (6 - p)))) :
    Calls Ybad.prog 3 #[.int .i64 m, .int .u8 prec, .int .u8 pu] w fun e w' => e = .returned (.bool true) ∧ Below w.heap.size w w' := by
  obtain ⟨hu0, hu1⟩ := pw_bd (6 - p) (by omega)
  have hq := half_eq (6 - p) (by omega) m h0
  obtain ⟨hr0, hr1⟩ := rh_bd m (pw (6 - p)) h0 hu0
  have em : mag m = m := if_neg (by omega)
  have ER : Hid (rd m (pw (6 - p)) = rh m (pw (6 - p))) := by show rd m _ = _; unfold rd; rw [if_neg (by omega), em]
  by_cases hl : m % pw (6 - p) = 0
  · have ES : Hid (word (lost (mag m) (pw (6 - p))) = ⟨#[101, 120, 97, 99, 116]⟩) := by show word _ = _; rw [em]; simp [lost, hl, word, exactly]
    have hl' : (m % pw (6 - p) != 0) = false := by simp [hl]
    clear em hl
    go_enter Ybad.func3, Ybad.ntmps3
    go_wp2_with (first | (go_at_call 5; refine (unit_any p _ hp6).mono ?_; rintro e w' ⟨rfl, rfl⟩) | (go_at_call 6; refine (round_to _ _ _ _ _ _ hp6 (by omega) (by omega) hc ER.out ES.out).mono ?_; rintro e w1 ⟨rfl, hb⟩))
    go_ret
    exact ⟨rfl, hb.alloc hb.size _⟩
  · have ES : Hid (word (lost (mag m) (pw (6 - p))) = ⟨#[114, 111, 117, 110, 100, 101, 100]⟩) := by show word _ = _; rw [em]; simp [lost, hl, word, rounded]
    have hl' : (m % pw (6 - p) != 0) = true := by simp [hl]
    clear em hl
    go_enter Ybad.func3, Ybad.ntmps3
    go_wp2_with (first | (go_at_call 5; refine (unit_any p _ hp6).mono ?_; rintro e w' ⟨rfl, rfl⟩) | (go_at_call 6; refine (round_to _ _ _ _ _ _ hp6 (by omega) (by omega) hc ER.out ES.out).mono ?_; rintro e w1 ⟨rfl, hb⟩))
    go_ret
    exact ⟨rfl, hb.alloc hb.size _⟩

set_option maxHeartbeats 1000000 in
theorem model_neg (m prec pu : Int) (w : World) (h0 : 0 < m) (h1 : m ≤ 3020399000000) (hpu0 : 0 ≤ pu) (hpu1 : pu < 256) (p : Nat) (hp6 : p ≤ 6) (hp : pu % 7 = p) (hc : w.cell? ⟨0, 6 - p, none⟩ = some (.int .i64 (pw (6 - p)))) :
    Calls Ybad.prog 3 #[.int .i64 (-m), .int .u8 prec, .int .u8 pu] w fun e w' => e = .returned (.bool true) ∧ Below w.heap.size w w' := by
  obtain ⟨hu0, hu1⟩ := pw_bd (6 - p) (by omega)
  have hq := half_eq (6 - p) (by omega) m (by omega)
  obtain ⟨hr0, hr1⟩ := rh_bd m (pw (6 - p)) (by omega) hu0
  have em : mag (-m) = m := by unfold mag; rw [if_pos (by omega)]; omega
  have ER : Hid (rd (-m) (pw (6 - p)) = -(rh m (pw (6 - p)))) := by show rd (-m) _ = _; unfold rd; rw [if_pos (by omega), em]
  by_cases hl : m % pw (6 - p) = 0
  · have ES : Hid (word (lost (mag (-m)) (pw (6 - p))) = ⟨#[101, 120, 97, 99, 116]⟩) := by show word _ = _; rw [em]; unfold lost; rw [hl]; rfl
    have hl' : (m % pw (6 - p) != 0) = false := by rw [hl]; rfl
    clear em hl
    go_enter Ybad.func3, Ybad.ntmps3
    go_wp2_with (first | (go_at_call 5; refine (unit_any p _ hp6).mono ?_; rintro e w' ⟨rfl, rfl⟩) | (go_at_call 6; refine (round_to _ _ _ _ _ _ hp6 (by omega) (by omega) hc ER.out ES.out).mono ?_; rintro e w1 ⟨rfl, hb⟩))
    go_ret
    exact ⟨rfl, hb.alloc hb.size _⟩
  · have hl' : (m % pw (6 - p) != 0) = true := by rw [bne_iff_ne]; exact hl
    have ES : Hid (word (lost (mag (-m)) (pw (6 - p))) = ⟨#[114, 111, 117, 110, 100, 101, 100]⟩) := by show word _ = _; rw [em]; unfold lost; rw [hl']; rfl
    clear em hl
    go_enter Ybad.func3, Ybad.ntmps3
    go_wp2_with (first | (go_at_call 5; refine (unit_any p _ hp6).mono ?_; rintro e w' ⟨rfl, rfl⟩) | (go_at_call 6; refine (round_to _ _ _ _ _ _ hp6 (by omega) (by omega) hc ER.out ES.out).mono ?_; rintro e w1 ⟨rfl, hb⟩))
    go_ret
    exact ⟨rfl, hb.alloc hb.size _⟩

/-- THE WALK, WHOLE. -/
theorem model_any (m prec pu : Int) (w : World) (hpu0 : 0 ≤ pu) (hpu1 : pu < 256) (hT : ∀ j, j ≤ 6 → w.cell? ⟨0, j, none⟩ = some (.int .i64 (pw j))) :
    Calls Ybad.prog 3 #[.int .i64 m, .int .u8 prec, .int .u8 pu] w fun e w' => e = .returned (.bool true) ∧ Below w.heap.size w w' := by
  obtain ⟨p, hp⟩ := Int.eq_ofNat_of_zero_le (show 0 ≤ pu % 7 by omega)
  have hp6 : p ≤ 6 := by omega
  by_cases hf : m < -3020399000000 ∨ 3020399000000 < m
  · exact model_far m prec pu w hf
  · by_cases hm : 0 ≤ m
    · exact model_pos m prec pu w hm (by omega) hpu0 hpu1 p hp6 hp (hT _ (by omega))
    · have := model_neg (-m) prec pu w (by omega) (by omega) hpu0 hpu1 p hp6 hp (hT _ (by omega))
      rwa [Int.neg_neg] at this
end Go.Proofs.YbulkavcyDoor

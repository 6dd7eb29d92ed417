import Derived.Test.YbulkavfqRows
import Derived.WalkKit
import Derived.WalkSpells
import Derived.WalkLawsBesides
namespace Go.Proofs.Ybulkavfq.lawS2330BTable
open Go.RowKit
set_option linter.unusedVariables false

/-- The k-th digit, small and great letters. -/
def lo (k : Nat) : Int := if k < 10 then 48 + k else 87 + k
def up (k : Nat) : Int := if k < 10 then 48 + k else 55 + k
/-- hexValue. -/
def hv (c : Int) : Int × Bool := if 48 ≤ c ∧ c ≤ 57 then (c - 48, true) else if 97 ≤ c ∧ c ≤ 102 then (c - 87, true) else if 65 ≤ c ∧ c ≤ 70 then (c - 55, true) else (0, false)

theorem ret_ib {a b : Int} {c d : Bool} (h : a = b) (h' : c = d) : Ending.returned (.tuple #[.int .i32 a, .bool c]) = .returned (.tuple #[.int .i32 b, .bool d]) := by rw [h, h']
theorem lo_at (k : Nat) (hk : k < 16) (h : k < (⟨#[48, 49, 50, 51, 52, 53, 54, 55, 56, 57, 97, 98, 99, 100, 101, 102]⟩ : ByteArray).size) : ((((⟨#[48, 49, 50, 51, 52, 53, 54, 55, 56, 57, 97, 98, 99, 100, 101, 102]⟩ : ByteArray))[k]'h).toNat : Int) = lo k := by
  match k, hk, h with
  | 0, _, _ => rfl
  | 1, _, _ => rfl
  | 2, _, _ => rfl
  | 3, _, _ => rfl
  | 4, _, _ => rfl
  | 5, _, _ => rfl
  | 6, _, _ => rfl
  | 7, _, _ => rfl
  | 8, _, _ => rfl
  | 9, _, _ => rfl
  | 10, _, _ => rfl
  | 11, _, _ => rfl
  | 12, _, _ => rfl
  | 13, _, _ => rfl
  | 14, _, _ => rfl
  | 15, _, _ => rfl
  | n + 16, hk, _ => exact absurd hk (by omega)
theorem up_at (k : Nat) (hk : k < 16) (h : k < (⟨#[48, 49, 50, 51, 52, 53, 54, 55, 56, 57, 65, 66, 67, 68, 69, 70]⟩ : ByteArray).size) : ((((⟨#[48, 49, 50, 51, 52, 53, 54, 55, 56, 57, 65, 66, 67, 68, 69, 70]⟩ : ByteArray))[k]'h).toNat : Int) = up k := by
  match k, hk, h with
  | 0, _, _ => rfl
  | 1, _, _ => rfl
  | 2, _, _ => rfl
  | 3, _, _ => rfl
  | 4, _, _ => rfl
  | 5, _, _ => rfl
  | 6, _, _ => rfl
  | 7, _, _ => rfl
  | 8, _, _ => rfl
  | 9, _, _ => rfl
  | 10, _, _ => rfl
  | 11, _, _ => rfl
  | 12, _, _ => rfl
  | 13, _, _ => rfl
  | 14, _, _ => rfl
  | 15, _, _ => rfl
  | n + 16, hk, _ => exact absurd hk (by omega)
theorem hv_lo (k : Nat) (hk : k < 16) : hv (lo k) = ((k : Int), true) := by
  unfold lo hv
  by_cases h : k < 10
  · rw [if_pos h, if_pos (by omega)]; congr 1; omega
  · rw [if_neg h, if_neg (by omega), if_pos (by omega)]; congr 1; omega
theorem hv_up (k : Nat) (hk : k < 16) : hv (up k) = ((k : Int), true) := by
  unfold up hv
  by_cases h : k < 10
  · rw [if_pos h, if_pos (by omega)]; congr 1; omega
  · rw [if_neg h, if_neg (by omega), if_neg (by omega), if_pos (by omega)]; congr 1; omega
theorem hv_no (c : Int) (h : ∀ j, j < 16 → c ≠ lo j ∧ c ≠ up j) : hv c = (0, false) := by
  unfold hv
  have a : ¬ (48 ≤ c ∧ c ≤ 57) := fun ⟨h0, h1⟩ => by
    have := (h (c - 48).toNat (by omega)).1
    unfold lo at this; rw [if_pos (by omega)] at this; omega
  have b : ¬ (97 ≤ c ∧ c ≤ 102) := fun ⟨h0, h1⟩ => by
    have := (h (c - 87).toNat (by omega)).1
    unfold lo at this; rw [if_neg (by omega)] at this; omega
  have d : ¬ (65 ≤ c ∧ c ≤ 70) := fun ⟨h0, h1⟩ => by
    have := (h (c - 55).toNat (by omega)).2
    unfold up at this; rw [if_neg (by omega)] at this; omega
  rw [if_neg a, if_neg b, if_neg d]

set_option maxHeartbeats 400000 in
theorem hex_any (c : Int) (w : World) (h0 : 0 ≤ c) (h1 : c < 256) :
    Calls Yba.prog 5 #[.int .u8 c] w fun e w' => e = .returned (.tuple #[.int .i32 (hv c).1, .bool (hv c).2]) ∧ w' = w := by
  by_cases a : 48 ≤ c ∧ c ≤ 57
  · have e : hv c = (c - 48, true) := if_pos a
    rw [e]; clear e; obtain ⟨a0, a1⟩ := a
    go_enter Yba.func5, Yba.ntmps5
    go_wp2
    go_ret2
    exact ⟨rfl, rfl⟩
  · by_cases b : 97 ≤ c ∧ c ≤ 102
    · have e : hv c = (c - 87, true) := by unfold hv; rw [if_neg a, if_pos b]
      rw [e]; clear e a; obtain ⟨b0, b1⟩ := b
      go_enter Yba.func5, Yba.ntmps5
      go_wp2
      go_ret2
      exact ⟨ret_ib (by omega) rfl, rfl⟩
    · by_cases d : 65 ≤ c ∧ c ≤ 70
      · have e : hv c = (c - 55, true) := by unfold hv; rw [if_neg a, if_neg b, if_pos d]
        rw [e]; clear e a b; obtain ⟨d0, d1⟩ := d
        go_enter Yba.func5, Yba.ntmps5
        go_wp2
        go_ret2
        exact ⟨ret_ib (by omega) rfl, rfl⟩
      · have e : hv c = (0, false) := by unfold hv; rw [if_neg a, if_neg b, if_neg d]
        rw [e]; clear e
        go_enter Yba.func5, Yba.ntmps5
        go_wp2
        all_goals first | (exfalso; omega) | (go_ret2; exact ⟨rfl, rfl⟩)

set_option maxHeartbeats 400000 in
theorem expect_any (c : Int) (w : World) (h0 : 0 ≤ c) (h1 : c < 256) :
    Calls Yba.prog 6 #[.int .u8 c] w fun e w' => e = .returned (.tuple #[.int .i32 (hv c).1, .bool (hv c).2]) ∧ w' = w := by
  go_enter Yba.func6, Yba.ntmps6
  go_wp2
  go_loop [4] (fun i => ∃ k : Nat, k ≤ 16 ∧ i = .int .i64 k ∧ Hid (∀ j, j < k → c ≠ lo j ∧ c ≠ up j)) (fun i => 16 - (intOf i).toNat)
  case atStart => exact ⟨0, by omega, rfl, fun j hj => absurd hj (Nat.not_lt_zero j)⟩
  case round =>
    obtain ⟨k, hk, rfl, HN⟩ := hrel
    by_cases hlt : k < 16
    · go_wp2
      · have hh : (((⟨#[48, 49, 50, 51, 52, 53, 54, 55, 56, 57, 97, 98, 99, 100, 101, 102]⟩ : ByteArray))[k].toNat : Int) = c := by assumption
        rw [lo_at k hlt] at hh
        subst hh
        rw [hv_lo k hlt]
        go_ret2
        exact ⟨rfl, rfl⟩
      · have g1 : ¬ (((⟨#[48, 49, 50, 51, 52, 53, 54, 55, 56, 57, 97, 98, 99, 100, 101, 102]⟩ : ByteArray))[k].toNat : Int) = c := by assumption
        have gg : ((((⟨#[48, 49, 50, 51, 52, 53, 54, 55, 56, 57, 97, 98, 99, 100, 101, 102]⟩ : ByteArray))[k].toNat : Int) == c) = true ∨ ((((⟨#[48, 49, 50, 51, 52, 53, 54, 55, 56, 57, 65, 66, 67, 68, 69, 70]⟩ : ByteArray))[k].toNat : Int) == c) = true := by assumption
        have hh : (((⟨#[48, 49, 50, 51, 52, 53, 54, 55, 56, 57, 65, 66, 67, 68, 69, 70]⟩ : ByteArray))[k].toNat : Int) = c := gg.elim (fun x => absurd (beq_iff_eq.1 x) g1) (fun x => beq_iff_eq.1 x)
        rw [up_at k hlt] at hh
        clear g1 gg
        subst hh
        rw [hv_up k hlt]
        go_ret2
        exact ⟨rfl, rfl⟩
      · have g1 : ¬ (((⟨#[48, 49, 50, 51, 52, 53, 54, 55, 56, 57, 97, 98, 99, 100, 101, 102]⟩ : ByteArray))[k].toNat : Int) = c := by assumption
        have gg : ((((⟨#[48, 49, 50, 51, 52, 53, 54, 55, 56, 57, 97, 98, 99, 100, 101, 102]⟩ : ByteArray))[k].toNat : Int) == c) = false ∧ ((((⟨#[48, 49, 50, 51, 52, 53, 54, 55, 56, 57, 65, 66, 67, 68, 69, 70]⟩ : ByteArray))[k].toNat : Int) == c) = false := by assumption
        have g2 : ¬ (((⟨#[48, 49, 50, 51, 52, 53, 54, 55, 56, 57, 65, 66, 67, 68, 69, 70]⟩ : ByteArray))[k].toNat : Int) = c := fun x => by have := gg.2; rw [x] at this; simp at this
        rw [lo_at k hlt] at g1
        rw [up_at k hlt] at g2
        go_round
        case rel => exact ⟨k + 1, by omega, by go_num, fun j hj => by
          by_cases e : j = k
          · subst e; exact ⟨fun h => g1 h.symm, fun h => g2 h.symm⟩
          · exact HN.out j (by omega)⟩
        case measure => simp [intOf]; omega
    · have hk' : k = 16 := by omega
      subst hk'
      have E : Hid (hv c = (0, false)) := hv_no c HN.out
      go_wp2
      rw [E.out]
      go_ret2
      exact ⟨rfl, rfl⟩

set_option maxHeartbeats 400000 in
theorem table_any (c : Int) (w : World) (h0 : 0 ≤ c) (h1 : c < 256) :
    Calls Yba.prog 3 #[.int .u8 c] w fun e w' => e = .returned (.bool true) ∧ w' = w := by
  obtain ⟨⟨v, b⟩, hv'⟩ : ∃ x, hv c = x := ⟨_, rfl⟩
  have HX := hex_any c
  have EX := expect_any c
  rw [hv'] at HX EX
  clear hv'
  have HX' : Hid (∀ w : World, 0 ≤ c → c < 256 → Calls Yba.prog 5 #[.int .u8 c] w fun e w' => e = .returned (.tuple #[.int .i32 v, .bool b]) ∧ w' = w) := HX
  have EX' : Hid (∀ w : World, 0 ≤ c → c < 256 → Calls Yba.prog 6 #[.int .u8 c] w fun e w' => e = .returned (.tuple #[.int .i32 v, .bool b]) ∧ w' = w) := EX
  clear HX EX
  cases b
  all_goals
    go_enter Yba.func3, Yba.ntmps3
    go_wp2_with (first | (go_at_call 5; refine (HX'.out _ h0 h1).mono ?_; rintro e w' ⟨rfl, rfl⟩) | (go_at_call 6; refine (EX'.out _ h0 h1).mono ?_; rintro e w' ⟨rfl, rfl⟩))
    go_ret
    exact ⟨rfl, rfl⟩
end Go.Proofs.Ybulkavfq.lawS2330BTable

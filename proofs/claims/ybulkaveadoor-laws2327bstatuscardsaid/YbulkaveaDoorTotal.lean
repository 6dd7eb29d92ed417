import Derived.Test.YbulkaveaDoorAdv
namespace Go.Proofs.YbulkaveaDoor
open Go.RowKit
set_option linter.unusedVariables false

/-- The 60 counts as the cells of an array. -/
def cnt (c : Nat → Int) : List Value := (List.range 60).map fun i => .int .i64 (c i)
/-- Their sum as Go adds them. -/
def tsum (c : Nat → Int) : Nat → Int
  | 0 => 0
  | n + 1 => wrap64 (tsum c n + c n)

theorem cnt_len (c : Nat → Int) : (cnt c).length = 60 := by simp [cnt]
theorem cnt_at (c : Nat → Int) (k : Nat) (h : k < 60) : (cnt c)[k]? = some (.int .i64 (c k)) := by simp [cnt, h]
theorem cnt_range (c : Nat → Int) (Q : Nat) (w : World) (h : ∀ i, i < 60 → w.cell? ⟨Q, 15 + i, none⟩ = some (.int .i64 (c i))) : w.rangeAt Q 15 (cnt c) := by
  intro j v hj
  have hl : j < 60 := by
    have := (List.getElem?_eq_some_iff.1 hj).1
    rwa [cnt_len] at this
  rw [cnt_at c j hl] at hj
  rw [h j hl]; exact hj

set_option maxHeartbeats 400000 in
theorem cnt_index (d : Nat → Int) (k : Nat) (h : k < 60) (w : World) : (Instr.index 28 (.agg (cnt d).toArray) (.int .i64 (k : Int))).run Ybad.prog w = .ok (.int .i64 (d k)) w := by
  have h1 : (0 : Int) ≤ k ∧ (k : Int) < (60 : Nat) := by omega
  have h2 := cnt_at d k h
  simp only [Instr.index, asIntOf, Sem.run_bind, Sem.run_pure, Result.andThen_ok, run_underlying Ybad.underlying28, if_pos h1]
  simp [go_sem, h2]

set_option maxHeartbeats 1000000 in
theorem total_any (Q : Nat) (c : Nat → Int) (l x : Int) (w : World) (hc : Hid (∀ i, i < 60 → w.cell? ⟨Q, 15 + i, none⟩ = some (.int .i64 (c i)))) (hf : Hid (∀ o, w.frozen? ⟨Q, o, none⟩ = false))
    (hl : w.cell? ⟨Q, 75, none⟩ = some (.int .i64 l)) (l0 : 0 ≤ l) (l1 : l ≤ x) (x1 : x ≤ 4294967295) :
    Calls Ybad.prog 18 #[.pointer (some ⟨Q, 15, none⟩), .int .i64 x] w fun e w' => e = .returned (.int .i64 (tsum (clr c (max (l + 1) (x - 59)) (x + 1 - max (l + 1) (x - 59)).toNat) 60)) ∧ Past Q w w' := by
  go_enter Ybad.func18, Ybad.ntmps18
  go_wp2_with fail
  refine (adv_any Q c l x w hc hf hl l0 l1 x1).mono ?_
  obtain ⟨d, hd⟩ : ∃ d, d = clr c (max (l + 1) (x - 59)) (x + 1 - max (l + 1) (x - 59)).toNat := ⟨_, rfl⟩
  rw [← hd]
  have HE : Hid (d = clr c (max (l + 1) (x - 59)) (x + 1 - max (l + 1) (x - 59)).toNat) := hd
  clear hd
  rintro e w' ⟨rfl, hp, hd⟩
  have HD : Hid (w'.rangeAt Q 15 (cnt d)) := cnt_range d Q w' hd
  have HP : Hid (Past Q w w') := hp
  clear hd hp
  have hlen := cnt_len d
  go_wp2_with (refine wpList_load_mid rfl 28 _ rfl Q 15 (by simp [go_sem]; done) (cnt d) _ HD.out Ybad.underlying28 rfl (by rw [cnt_len]; kernel_rfl) ?_)
  go_loop [5, 15] (fun a i => ∃ k : Nat, k ≤ 60 ∧ i = .int .i64 k ∧ a = .int .i64 (tsum d k)) (fun _ i => 60 - (intOf i).toNat)
  case atStart => exact ⟨0, by omega, rfl, rfl⟩
  case round =>
    obtain ⟨k, hk, rfl, rfl⟩ := hrel
    by_cases hlt : k < 60
    · have hat := cnt_index d k hlt
      go_wp2
      go_round
      case rel => exact ⟨k + 1, by omega, by simp, by simp [tsum]⟩
      case measure => simp [intOf]; omega
    · have hk' : k = 60 := by omega
      subst hk'
      go_wp2
      go_ret
      refine ⟨?_, HP⟩
      rw [← HE.out]; rfl
end Go.Proofs.YbulkaveaDoor

import Derived.Test.YbulkavcyPlain
import Derived.WalkKit
import Derived.WalkSpells
import Derived.WalkLawsBesides
import Derived.Below
import Derived.OwnWalk
namespace Go.Proofs.Ybulkavcy.lawS2325ADigits
open Go.RowKit
set_option linter.unusedVariables false

theorem info5 : (Yba.prog.info? 5).map (fun i => (i.zero, i.size, i.bytes)) = some (some (.int .u8 0), 1, 1) := by kernel_rfl

set_option maxHeartbeats 400000 in
theorem walk_long (a0 : Option Addr) (len0 cap0 : Nat) (w : World) (h : 1024 < len0) (hm : len0 ≤ 9223372036854775807) :
    Calls Yba.prog 3 #[.slice a0 len0 cap0] w fun e w' => e = .returned (.bool true) ∧ Below w.heap.size w w' := by
  go_enter Yba.func3, Yba.ntmps3
  go_wp2
  go_ret
  exact ⟨rfl, Below.refl _ _⟩

theorem wf_u8_bd {z : Int} (h : (Lit.int .u8 z).wf = true) : 0 ≤ z ∧ z < 256 := by
  simp [Lit.wf, IntKind.min, IntKind.max, IntKind.signed, IntKind.bits] at h
  omega
theorem step_dg (zs : List Int) (k : Nat) (hwf : ∀ n ∈ zs, (Lit.int .u8 n).wf = true) : (48 + (zs[k]?.getD 0).tmod 10) % 256 = dg (zs.getD k 0) := by
  have h : 0 ≤ zs[k]?.getD 0 := by
    by_cases hk : k < zs.length
    · have := hwf zs[k] (List.getElem_mem hk)
      rw [List.getElem?_eq_getElem hk, Option.getD_some]
      exact (wf_u8_bd this).1
    · simp [List.getElem?_eq_none (show zs.length ≤ k by omega)]
  rw [show zs.getD k 0 = zs[k]?.getD 0 from by simp [List.getD]]
  generalize zs[k]?.getD 0 = z at h
  unfold dg
  rw [Int.tmod_eq_emod_of_nonneg h]
  omega
theorem read_end (s : ByteArray) (w : World) (hs : s.size ≤ 1024) (hd : ∀ c ∈ s.data.toList, isDig c) :
    Calls Yba.prog 5 #[.string s] w fun e w' => ∃ H M S : Int, e = .returned (.tuple #[.int .i64 H, .int .i64 M, .int .i64 S]) ∧ Hid (H = eH s s.size ∧ M = eM s s.size ∧ S = eS s s.size) ∧ w' = w :=
  (read_any s w hs hd).mono fun _ _ h => ⟨_, _, _, h.1, ⟨(eH_end s).symm, (eM_end s).symm, (eS_end s).symm⟩, h.2⟩

set_option maxHeartbeats 1000000 in
theorem walk_row (a0 : Option Addr) (len0 cap0 : Nat) (zs : List Int) (w : World) (h : len0 ≤ 1024) (hlc : len0 ≤ zs.length)
    (hA : Hid (∀ i, i < len0 → ∃ x, a0 = some x ∧ w.cell? (x.add i) = some (.int .u8 (zs.getD i 0)) ∧ (x.add i).block < w.heap.size)) (hwf : ∀ n ∈ zs, (Lit.int .u8 n).wf = true) :
    Calls Yba.prog 3 #[.slice a0 len0 cap0] w fun e w' => e = .returned (.bool true) ∧ Below w.heap.size w w' := by
  obtain ⟨i0, hi, hz0, hz1, hz2⟩ := info_parts info5
  go_enter Yba.func3, Yba.ntmps3
  go_wp2_with (at_make; refine wpList_make_full _ rfl _ _ 22 rfl w.heap.size 5 i0 (.int .u8 0) 1 Yba.underlying22 hi hz0 hz1 _ _ _ _ len0 rfl rfl rfl rfl (by rw [hz2]; omega) (by unfold maxLen; omega) (Nat.le_refl _) ?_)
  intro w1 hown hgrow
  rw [toList_madeCells_one] at hown
  have hbel : Below w.heap.size w w1 := (Below.refl _ _).grown hgrow (Nat.le_refl _) (by simp)
  have Hown : Hid (w1.ownsRow w.heap.size 5 1 (.slice (some ⟨w.heap.size, 0, none⟩) len0 len0) len0 (rowTo zs len0 0)) := by rw [rowTo_zero]; exact hown
  clear hown hgrow
  go_wp2
  go_loopw [23] (fun i wr => ∃ k : Nat, k ≤ len0 ∧ i = .int .i64 k ∧ Hid (wr.ownsRow w.heap.size 5 1 (.slice (some ⟨w.heap.size, 0, none⟩) len0 len0) len0 (rowTo zs len0 k)) ∧ Below w.heap.size w wr) (fun i _ => len0 - (intOf i).toNat)
  case atStart => exact ⟨0, Nat.zero_le _, rfl, Hown, hbel⟩
  case round =>
    obtain ⟨k, hk, rfl, Ho, hb⟩ := hrel
    by_cases hlt : k < len0
    · obtain ⟨x, hax, hcx0, hxb⟩ := hA.out k hlt
      subst hax
      have hcx : wr.cell? (x.add k) = some (.int .u8 (zs.getD k 0)) := (hb.cell (p := x.add k) hxb).trans hcx0
      clear hcx0
      have hcb : wr.cell? ⟨w.heap.size, k, none⟩ = some (.int .u8 0) := (Ho.out.cellAt k (by omega)).trans (rowTo_at zs len0 k hlt (by omega))
      have hfb : wr.frozen? ⟨w.heap.size, k, none⟩ = false := Ho.out.frozenAt k
      have hv := step_dg zs k hwf
      have R := Ho.out.stored k (.int .u8 ((48 + (zs[k]?.getD 0).tmod 10) % 256))
      have Ho' : Hid ((wr.setCell ⟨w.heap.size, k, none⟩ (.int .u8 ((48 + (zs[k]?.getD 0).tmod 10) % 256))).ownsRow w.heap.size 5 1 (.slice (some ⟨w.heap.size, 0, none⟩) len0 len0) len0 (rowTo zs len0 (k + 1))) := by
        rw [← rowTo_set zs len0 k hlt (by omega), ← hv]; exact R.1
      clear R hv
      go_wp2
      go_roundw
      case rel => exact ⟨k + 1, by omega, by go_num, Ho', hb.setCell (Nat.le_refl _) _⟩
      case measure => simp [intOf]; omega
    · have hk' : k = len0 := by omega
      subst hk'
      have hzl : k ≤ zs.length := by omega
      obtain ⟨s, hs⟩ : ∃ s, s = sOf zs k := ⟨_, rfl⟩
      have hsz1 : s.size ≤ k := by rw [hs, sOf_size zs k hzl]; exact Nat.le_refl _
      have hsz2 : k ≤ s.size := by rw [hs, sOf_size zs k hzl]; exact Nat.le_refl _
      have HD : Hid (∀ c ∈ s.data.toList, isDig c) := by rw [hs]; exact sOf_dig zs k
      have hcv : (convert 22 9 (.slice (some ⟨w.heap.size, 0, none⟩) k k)).run Yba.prog wr = .ok (.string s) wr := by
        rw [hs]
        refine run_convert_bytes_arg wr 22 5 Yba.underlying22 Yba.underlying5 _ 0 k k _ (by simp; omega) (fun i hi => ?_) 9 Yba.underlying9
        rw [Nat.zero_add, Ho.out.cellAt i (by omega), rowTo_full]
        simp [List.getD, hi, show i < zs.length by omega]
      have HC : Hid (∀ (i : Nat) (h : i < s.size), wr.cell? ⟨w.heap.size, i, none⟩ = some (.int .u8 (s[i].toNat : Int))) := by
        show ∀ (i : Nat) (h : i < s.size), wr.cell? ⟨w.heap.size, i, none⟩ = some (.int .u8 (s[i].toNat : Int))
        subst hs
        intro i h
        rw [sOf_at zs k i hzl h, Ho.out.cellAt i (by omega), rowTo_full]
        simp [List.getD, show i < k by omega, show i < zs.length by omega]
      clear hs Ho
      go_wp2_with (go_at_call 5; refine (read_end s _ (by omega) HD.out).mono ?_; rintro e w' ⟨H, M, S, rfl, HE, rfl⟩)
      go_loop [10, 11, 12, 13] (fun a b c i => ∃ j : Nat, j ≤ k ∧ i = .int .i64 j ∧ a = .int .i64 (eH s j) ∧ b = .int .i64 (eM s j) ∧ c = .int .i64 (eS s j)) (fun _ _ _ i => k - (intOf i).toNat)
      case atStart => exact ⟨0, Nat.zero_le _, rfl, rfl, by simp [eM, num], by simp [eS, num]⟩
      case round =>
        obtain ⟨j, hj, rfl, rfl, rfl, rfl⟩ := hrel
        obtain ⟨hH0, hH1⟩ := eH_bd HD.out j
        obtain ⟨hM0, hM1⟩ := eM_bd HD.out j
        obtain ⟨hS0, hS1⟩ := eS_bd HD.out j
        by_cases hjk : j < k
        · have hcj := HC.out j (by omega)
          have hdj := HD.out _ (mem_at s j (by omega))
          obtain ⟨c, hcd⟩ : ∃ c : Int, c = (s[j].toNat : Int) := ⟨_, rfl⟩
          unfold isDig at hdj
          rw [← hcd] at hcj hdj
          obtain ⟨hd0, hd1⟩ := hdj
          have HCD : Hid (c = (s[j].toNat : Int)) := hcd
          clear hcd
          by_cases h4 : j + 4 < k
          · have e1 := eH_yes s j (by omega)
            rw [← HCD.out] at e1
            have E1 : Hid (eH s (j + 1) = min (eH s j * 10 + (c - 48)) 9999999) := e1
            clear e1
            go_wp2
            go_round
            case rel => exact ⟨j + 1, by omega, by go_num, by rw [E1.out]; exact val_int (by split <;> omega), by rw [eM_early s j (by omega)], by rw [eS_no s j (by omega)]⟩
            case measure => simp [intOf]; omega
          · by_cases h2 : j + 2 < k
            · have e1 := eM_yes HD.out j (by omega) (by omega)
              rw [← HCD.out] at e1
              have E1 : Hid (eM s (j + 1) = eM s j * 10 + (c - 48)) := e1
              clear e1
              go_wp2
              go_round
              case rel => exact ⟨j + 1, by omega, by go_num, by rw [eH_no s j (by omega)], by rw [E1.out], by rw [eS_no s j (by omega)]⟩
              case measure => simp [intOf]; omega
            · have e1 := eS_yes HD.out j (by omega) (by omega)
              rw [← HCD.out] at e1
              have E1 : Hid (eS s (j + 1) = eS s j * 10 + (c - 48)) := e1
              clear e1
              go_wp2
              go_round
              case rel => exact ⟨j + 1, by omega, by go_num, by rw [eH_no s j (by omega)], by rw [eM_late s j (by omega)], by rw [E1.out]⟩
              case measure => simp [intOf]; omega
        · have hjk' : j = s.size := by omega
          obtain ⟨h1, h2, h3⟩ := HE.out
          have b1 : (H == eH s j) = true := by rw [h1, hjk']; simp
          have b2 : (M == eM s j) = true := by rw [h2, hjk']; simp
          have b3 : (S == eS s j) = true := by rw [h3, hjk']; simp
          clear h1 h2 h3 hjk' HE
          go_wp2
          go_ret
          exact ⟨rfl, hb⟩

end Go.Proofs.Ybulkavcy.lawS2325ADigits

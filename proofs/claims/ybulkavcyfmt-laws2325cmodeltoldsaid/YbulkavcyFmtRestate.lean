import Derived.Test.YbulkavcyFmtLeaves
namespace Go.Proofs.YbulkavcyFmt
open Go.RowKit
set_option linter.unusedVariables false

theorem val_u64 {a b : Int} (h : a = b) : Value.int .u64 a = .int .u64 b := by rw [h]
theorem ret_is {a b : Int} {c d : ByteArray} (h : a = b) (h' : c = d) : Ending.returned (.tuple #[.int .i64 a, .string c]) = .returned (.tuple #[.int .i64 b, .string d]) := by rw [h, h']

theorem held_nb (d : Int) (hd : d < 0) (hl : 3020400000000000 < -d) : held d = 3020400000000000 := by
  unfold held absD
  rw [if_neg (show ¬ 0 ≤ d by omega)]
  by_cases hm : d = -9223372036854775808
  · rw [if_pos hm]; decide
  · rw [if_neg hm, if_pos hl]
theorem held_ns (d : Int) (hd : d < 0) (hl : ¬ 3020400000000000 < -d) : held d = -d := by
  unfold held absD
  rw [if_neg (show ¬ 0 ≤ d by omega), if_neg (show ¬ d = -9223372036854775808 by omega), if_neg hl]
theorem held_pb (d : Int) (hd : ¬ d < 0) (hl : 3020400000000000 < d) : held d = 3020400000000000 := by
  unfold held absD
  rw [if_pos (show 0 ≤ d by omega), if_pos hl]
theorem held_ps (d : Int) (hd : ¬ d < 0) (hl : ¬ 3020400000000000 < d) : held d = d := by
  unfold held absD
  rw [if_pos (show 0 ≤ d by omega), if_neg hl]

theorem leaf {neg : Bool} {H U t : Int} {q : ByteArray} {R M a : Int} {b : ByteArray} (ET : sgn neg (clipM (rh H U / 1000)) = t) (EQ : clipO (rh H U / 1000) (word (lost H U)) = q)
    (hR : rh H U / 1000 = R) (hM : clipM R = M) (hs : sgn neg M = a) (ho : clipO R (word (lost H U)) = b) : Ending.returned (.tuple #[.int .i64 a, .string b]) = .returned (.tuple #[.int .i64 t, .string q]) := by
  rw [hR] at ET EQ
  rw [hM, hs] at ET
  rw [ho] at EQ
  rw [ET, EQ]

set_option maxHeartbeats 4000000 in
theorem restate_nb (d : Int) (p : Nat) (w : World) (h0 : -9223372036854775808 ≤ d) (h1 : d ≤ 9223372036854775807) (hp : p ≤ 6) (hd : d < 0) (hl : 3020400000000000 < -d) :
    Calls Ybaf.prog 8 #[.int .i64 d, .int .i64 p] w fun e w' => e = .returned (.tuple #[.int .i64 (tmOf d (pw (6 - p))), .string (ocOf d (pw (6 - p)))]) ∧ w' = w := by
  obtain ⟨H, hH⟩ : ∃ H, held d = H := ⟨_, rfl⟩
  obtain ⟨hh0, hh1⟩ := held_bd d h0 h1
  rw [hH] at hh0 hh1
  obtain ⟨t, ht⟩ : ∃ t, tmOf d (pw (6 - p)) = t := ⟨_, rfl⟩
  obtain ⟨q, hq⟩ : ∃ q, ocOf d (pw (6 - p)) = q := ⟨_, rfl⟩
  obtain ⟨U, hU⟩ : ∃ U, 1000 * pw (6 - p) = U := ⟨_, rfl⟩
  have ET : Hid (sgn true (clipM (rh H U / 1000)) = t) := by show sgn _ _ = t; rw [← ht, ← hU, ← hH]; unfold tmOf; rw [show decide (d < 0) = true from by simp [hd]]; rfl
  have EQ : Hid (clipO (rh H U / 1000) (word (lost H U)) = q) := by show clipO _ _ = q; rw [← hq, ← hU, ← hH]; rfl
  have HU : Hid (1000 * pw (6 - p) = U) := hU
  have hu := pw_bd (6 - p) (by omega)
  have hu0 : 1000 ≤ U := by omega
  have hu1 : U ≤ 1000000000 := by omega
  have HH : Hid (3020400000000000 = H) := by show 3020400000000000 = H; rw [← hH, held_nb d hd hl]
  rw [ht, hq]
  clear hH ht hq hU hu
  go_enter Ybaf.func8, Ybaf.ntmps8
  go_wp2
  go_loop [7, 8] (fun u i => ∃ k : Nat, p ≤ k ∧ k ≤ 6 ∧ u = .int .u64 (1000 * pw (k - p)) ∧ i = .int .i64 k) (fun _ i => 6 - (intOf i).toNat)
  case atStart => exact ⟨p, Nat.le_refl _, hp, by rw [Nat.sub_self]; rfl, rfl⟩
  case round =>
    obtain ⟨k, hk0, hk1, rfl, rfl⟩ := hrel
    obtain ⟨hb0, hb1⟩ := pw_bd (k - p) (by omega)
    by_cases hlt : k < 6
    · have E : Hid (pw (k + 1 - p) = pw (k - p) * 10) := by
        show pw (k + 1 - p) = pw (k - p) * 10
        rw [show k + 1 - p = (k - p) + 1 by omega, pw_succ]
      go_wp2
      go_round
      case rel => exact ⟨k + 1, by omega, by omega, by rw [E.out]; exact val_u64 (by omega), by go_num⟩
      case measure => simp [intOf]; omega
    · have hk' : k = 6 := by omega
      subst hk'
      clear hb0 hb1 hk0 hk1 hlt
      have hm0 : 0 ≤ H % U := Int.emod_nonneg _ (by omega)
      have hm1 : H % U < U := Int.emod_lt_of_pos _ (by omega)
      have hm2 : H % U ≤ H := by
        have := Int.emod_add_mul_ediv H U
        have h2 : 0 ≤ U * (H / U) := Int.mul_nonneg (by omega) (Int.ediv_nonneg hh0 (by omega))
        omega
      have hS := HH.out
      have hU := HU.out
      clear HH HU
      by_cases hc : U ≤ 2 * (H % U)
      · have hbt : (H % U != 0) = true := by rw [bne_iff_ne]; omega
        have ER : Hid (rh H U / 1000 = (H - H % U + U) / 1000) := by show rh H U / 1000 = _; unfold rh; rw [if_pos hc]
        have EL : Hid (lost H U = true) := hbt
        by_cases hM : 3020399000000 < (H - H % U + U) / 1000
        · go_wp2
          all_goals (go_ret2; exact ⟨leaf ET.out EQ.out ER.out (if_pos hM) rfl (if_pos hM), rfl⟩)
        · go_wp2
          all_goals (go_ret2; exact ⟨leaf ET.out EQ.out ER.out (if_neg (by omega)) rfl (by rw [EL.out]; exact if_neg (by omega)), rfl⟩)
      · have ER : Hid (rh H U / 1000 = (H - H % U) / 1000) := by show rh H U / 1000 = _; unfold rh; rw [if_neg hc]
        cases hbt : (H % U != 0)
        · have EL : Hid (lost H U = false) := hbt
          by_cases hM : 3020399000000 < (H - H % U) / 1000
          · go_wp2
            all_goals (go_ret2; exact ⟨leaf ET.out EQ.out ER.out (if_pos hM) rfl (if_pos hM), rfl⟩)
          · go_wp2
            all_goals (go_ret2; exact ⟨leaf ET.out EQ.out ER.out (if_neg (by omega)) rfl (by rw [EL.out]; exact if_neg (by omega)), rfl⟩)
        · have EL : Hid (lost H U = true) := hbt
          by_cases hM : 3020399000000 < (H - H % U) / 1000
          · go_wp2
            all_goals (go_ret2; exact ⟨leaf ET.out EQ.out ER.out (if_pos hM) rfl (if_pos hM), rfl⟩)
          · go_wp2
            all_goals (go_ret2; exact ⟨leaf ET.out EQ.out ER.out (if_neg (by omega)) rfl (by rw [EL.out]; exact if_neg (by omega)), rfl⟩)

set_option maxHeartbeats 4000000 in
theorem restate_ns (d : Int) (p : Nat) (w : World) (h0 : -9223372036854775808 ≤ d) (h1 : d ≤ 9223372036854775807) (hp : p ≤ 6) (hd : d < 0) (hl : ¬ 3020400000000000 < -d) :
    Calls Ybaf.prog 8 #[.int .i64 d, .int .i64 p] w fun e w' => e = .returned (.tuple #[.int .i64 (tmOf d (pw (6 - p))), .string (ocOf d (pw (6 - p)))]) ∧ w' = w := by
  obtain ⟨H, hH⟩ : ∃ H, held d = H := ⟨_, rfl⟩
  obtain ⟨hh0, hh1⟩ := held_bd d h0 h1
  rw [hH] at hh0 hh1
  obtain ⟨t, ht⟩ : ∃ t, tmOf d (pw (6 - p)) = t := ⟨_, rfl⟩
  obtain ⟨q, hq⟩ : ∃ q, ocOf d (pw (6 - p)) = q := ⟨_, rfl⟩
  obtain ⟨U, hU⟩ : ∃ U, 1000 * pw (6 - p) = U := ⟨_, rfl⟩
  have ET : Hid (sgn true (clipM (rh H U / 1000)) = t) := by show sgn _ _ = t; rw [← ht, ← hU, ← hH]; unfold tmOf; rw [show decide (d < 0) = true from by simp [hd]]; rfl
  have EQ : Hid (clipO (rh H U / 1000) (word (lost H U)) = q) := by show clipO _ _ = q; rw [← hq, ← hU, ← hH]; rfl
  have HU : Hid (1000 * pw (6 - p) = U) := hU
  have hu := pw_bd (6 - p) (by omega)
  have hu0 : 1000 ≤ U := by omega
  have hu1 : U ≤ 1000000000 := by omega
  have HH : Hid (-(d + 1) + 1 = H) := by show -(d + 1) + 1 = H; rw [← hH, held_ns d hd hl]; omega
  rw [ht, hq]
  clear hH ht hq hU hu
  go_enter Ybaf.func8, Ybaf.ntmps8
  go_wp2
  go_loop [7, 8] (fun u i => ∃ k : Nat, p ≤ k ∧ k ≤ 6 ∧ u = .int .u64 (1000 * pw (k - p)) ∧ i = .int .i64 k) (fun _ i => 6 - (intOf i).toNat)
  case atStart => exact ⟨p, Nat.le_refl _, hp, by rw [Nat.sub_self]; rfl, rfl⟩
  case round =>
    obtain ⟨k, hk0, hk1, rfl, rfl⟩ := hrel
    obtain ⟨hb0, hb1⟩ := pw_bd (k - p) (by omega)
    by_cases hlt : k < 6
    · have E : Hid (pw (k + 1 - p) = pw (k - p) * 10) := by
        show pw (k + 1 - p) = pw (k - p) * 10
        rw [show k + 1 - p = (k - p) + 1 by omega, pw_succ]
      go_wp2
      go_round
      case rel => exact ⟨k + 1, by omega, by omega, by rw [E.out]; exact val_u64 (by omega), by go_num⟩
      case measure => simp [intOf]; omega
    · have hk' : k = 6 := by omega
      subst hk'
      clear hb0 hb1 hk0 hk1 hlt
      have hm0 : 0 ≤ H % U := Int.emod_nonneg _ (by omega)
      have hm1 : H % U < U := Int.emod_lt_of_pos _ (by omega)
      have hm2 : H % U ≤ H := by
        have := Int.emod_add_mul_ediv H U
        have h2 : 0 ≤ U * (H / U) := Int.mul_nonneg (by omega) (Int.ediv_nonneg hh0 (by omega))
        omega
      have hS := HH.out
      have hU := HU.out
      clear HH HU
      by_cases hc : U ≤ 2 * (H % U)
      · have hbt : (H % U != 0) = true := by rw [bne_iff_ne]; omega
        have ER : Hid (rh H U / 1000 = (H - H % U + U) / 1000) := by show rh H U / 1000 = _; unfold rh; rw [if_pos hc]
        have EL : Hid (lost H U = true) := hbt
        by_cases hM : 3020399000000 < (H - H % U + U) / 1000
        · go_wp2
          all_goals (go_ret2; exact ⟨leaf ET.out EQ.out ER.out (if_pos hM) rfl (if_pos hM), rfl⟩)
        · go_wp2
          all_goals (go_ret2; exact ⟨leaf ET.out EQ.out ER.out (if_neg (by omega)) rfl (by rw [EL.out]; exact if_neg (by omega)), rfl⟩)
      · have ER : Hid (rh H U / 1000 = (H - H % U) / 1000) := by show rh H U / 1000 = _; unfold rh; rw [if_neg hc]
        cases hbt : (H % U != 0)
        · have EL : Hid (lost H U = false) := hbt
          by_cases hM : 3020399000000 < (H - H % U) / 1000
          · go_wp2
            all_goals (go_ret2; exact ⟨leaf ET.out EQ.out ER.out (if_pos hM) rfl (if_pos hM), rfl⟩)
          · go_wp2
            all_goals (go_ret2; exact ⟨leaf ET.out EQ.out ER.out (if_neg (by omega)) rfl (by rw [EL.out]; exact if_neg (by omega)), rfl⟩)
        · have EL : Hid (lost H U = true) := hbt
          by_cases hM : 3020399000000 < (H - H % U) / 1000
          · go_wp2
            all_goals (go_ret2; exact ⟨leaf ET.out EQ.out ER.out (if_pos hM) rfl (if_pos hM), rfl⟩)
          · go_wp2
            all_goals (go_ret2; exact ⟨leaf ET.out EQ.out ER.out (if_neg (by omega)) rfl (by rw [EL.out]; exact if_neg (by omega)), rfl⟩)

set_option maxHeartbeats 4000000 in
theorem restate_pb (d : Int) (p : Nat) (w : World) (h0 : -9223372036854775808 ≤ d) (h1 : d ≤ 9223372036854775807) (hp : p ≤ 6) (hd : ¬ d < 0) (hl : 3020400000000000 < d) :
    Calls Ybaf.prog 8 #[.int .i64 d, .int .i64 p] w fun e w' => e = .returned (.tuple #[.int .i64 (tmOf d (pw (6 - p))), .string (ocOf d (pw (6 - p)))]) ∧ w' = w := by
  obtain ⟨H, hH⟩ : ∃ H, held d = H := ⟨_, rfl⟩
  obtain ⟨hh0, hh1⟩ := held_bd d h0 h1
  rw [hH] at hh0 hh1
  obtain ⟨t, ht⟩ : ∃ t, tmOf d (pw (6 - p)) = t := ⟨_, rfl⟩
  obtain ⟨q, hq⟩ : ∃ q, ocOf d (pw (6 - p)) = q := ⟨_, rfl⟩
  obtain ⟨U, hU⟩ : ∃ U, 1000 * pw (6 - p) = U := ⟨_, rfl⟩
  have ET : Hid (sgn false (clipM (rh H U / 1000)) = t) := by show sgn _ _ = t; rw [← ht, ← hU, ← hH]; unfold tmOf; rw [show decide (d < 0) = false from by simp; omega]; rfl
  have EQ : Hid (clipO (rh H U / 1000) (word (lost H U)) = q) := by show clipO _ _ = q; rw [← hq, ← hU, ← hH]; rfl
  have HU : Hid (1000 * pw (6 - p) = U) := hU
  have hu := pw_bd (6 - p) (by omega)
  have hu0 : 1000 ≤ U := by omega
  have hu1 : U ≤ 1000000000 := by omega
  have HH : Hid (3020400000000000 = H) := by show 3020400000000000 = H; rw [← hH, held_pb d hd hl]
  rw [ht, hq]
  clear hH ht hq hU hu
  go_enter Ybaf.func8, Ybaf.ntmps8
  go_wp2
  go_loop [7, 8] (fun u i => ∃ k : Nat, p ≤ k ∧ k ≤ 6 ∧ u = .int .u64 (1000 * pw (k - p)) ∧ i = .int .i64 k) (fun _ i => 6 - (intOf i).toNat)
  case atStart => exact ⟨p, Nat.le_refl _, hp, by rw [Nat.sub_self]; rfl, rfl⟩
  case round =>
    obtain ⟨k, hk0, hk1, rfl, rfl⟩ := hrel
    obtain ⟨hb0, hb1⟩ := pw_bd (k - p) (by omega)
    by_cases hlt : k < 6
    · have E : Hid (pw (k + 1 - p) = pw (k - p) * 10) := by
        show pw (k + 1 - p) = pw (k - p) * 10
        rw [show k + 1 - p = (k - p) + 1 by omega, pw_succ]
      go_wp2
      go_round
      case rel => exact ⟨k + 1, by omega, by omega, by rw [E.out]; exact val_u64 (by omega), by go_num⟩
      case measure => simp [intOf]; omega
    · have hk' : k = 6 := by omega
      subst hk'
      clear hb0 hb1 hk0 hk1 hlt
      have hm0 : 0 ≤ H % U := Int.emod_nonneg _ (by omega)
      have hm1 : H % U < U := Int.emod_lt_of_pos _ (by omega)
      have hm2 : H % U ≤ H := by
        have := Int.emod_add_mul_ediv H U
        have h2 : 0 ≤ U * (H / U) := Int.mul_nonneg (by omega) (Int.ediv_nonneg hh0 (by omega))
        omega
      have hS := HH.out
      have hU := HU.out
      clear HH HU
      by_cases hc : U ≤ 2 * (H % U)
      · have hbt : (H % U != 0) = true := by rw [bne_iff_ne]; omega
        have ER : Hid (rh H U / 1000 = (H - H % U + U) / 1000) := by show rh H U / 1000 = _; unfold rh; rw [if_pos hc]
        have EL : Hid (lost H U = true) := hbt
        by_cases hM : 3020399000000 < (H - H % U + U) / 1000
        · go_wp2
          all_goals (go_ret2; exact ⟨leaf ET.out EQ.out ER.out (if_pos hM) rfl (if_pos hM), rfl⟩)
        · go_wp2
          all_goals (go_ret2; exact ⟨leaf ET.out EQ.out ER.out (if_neg (by omega)) rfl (by rw [EL.out]; exact if_neg (by omega)), rfl⟩)
      · have ER : Hid (rh H U / 1000 = (H - H % U) / 1000) := by show rh H U / 1000 = _; unfold rh; rw [if_neg hc]
        cases hbt : (H % U != 0)
        · have EL : Hid (lost H U = false) := hbt
          by_cases hM : 3020399000000 < (H - H % U) / 1000
          · go_wp2
            all_goals (go_ret2; exact ⟨leaf ET.out EQ.out ER.out (if_pos hM) rfl (if_pos hM), rfl⟩)
          · go_wp2
            all_goals (go_ret2; exact ⟨leaf ET.out EQ.out ER.out (if_neg (by omega)) rfl (by rw [EL.out]; exact if_neg (by omega)), rfl⟩)
        · have EL : Hid (lost H U = true) := hbt
          by_cases hM : 3020399000000 < (H - H % U) / 1000
          · go_wp2
            all_goals (go_ret2; exact ⟨leaf ET.out EQ.out ER.out (if_pos hM) rfl (if_pos hM), rfl⟩)
          · go_wp2
            all_goals (go_ret2; exact ⟨leaf ET.out EQ.out ER.out (if_neg (by omega)) rfl (by rw [EL.out]; exact if_neg (by omega)), rfl⟩)

set_option maxHeartbeats 4000000 in
theorem restate_ps (d : Int) (p : Nat) (w : World) (h0 : -9223372036854775808 ≤ d) (h1 : d ≤ 9223372036854775807) (hp : p ≤ 6) (hd : ¬ d < 0) (hl : ¬ 3020400000000000 < d) :
    Calls Ybaf.prog 8 #[.int .i64 d, .int .i64 p] w fun e w' => e = .returned (.tuple #[.int .i64 (tmOf d (pw (6 - p))), .string (ocOf d (pw (6 - p)))]) ∧ w' = w := by
  obtain ⟨H, hH⟩ : ∃ H, held d = H := ⟨_, rfl⟩
  obtain ⟨hh0, hh1⟩ := held_bd d h0 h1
  rw [hH] at hh0 hh1
  obtain ⟨t, ht⟩ : ∃ t, tmOf d (pw (6 - p)) = t := ⟨_, rfl⟩
  obtain ⟨q, hq⟩ : ∃ q, ocOf d (pw (6 - p)) = q := ⟨_, rfl⟩
  obtain ⟨U, hU⟩ : ∃ U, 1000 * pw (6 - p) = U := ⟨_, rfl⟩
  have ET : Hid (sgn false (clipM (rh H U / 1000)) = t) := by show sgn _ _ = t; rw [← ht, ← hU, ← hH]; unfold tmOf; rw [show decide (d < 0) = false from by simp; omega]; rfl
  have EQ : Hid (clipO (rh H U / 1000) (word (lost H U)) = q) := by show clipO _ _ = q; rw [← hq, ← hU, ← hH]; rfl
  have HU : Hid (1000 * pw (6 - p) = U) := hU
  have hu := pw_bd (6 - p) (by omega)
  have hu0 : 1000 ≤ U := by omega
  have hu1 : U ≤ 1000000000 := by omega
  have HH : Hid (d = H) := by show d = H; rw [← hH, held_ps d hd hl]
  rw [ht, hq]
  clear hH ht hq hU hu
  go_enter Ybaf.func8, Ybaf.ntmps8
  go_wp2
  go_loop [7, 8] (fun u i => ∃ k : Nat, p ≤ k ∧ k ≤ 6 ∧ u = .int .u64 (1000 * pw (k - p)) ∧ i = .int .i64 k) (fun _ i => 6 - (intOf i).toNat)
  case atStart => exact ⟨p, Nat.le_refl _, hp, by rw [Nat.sub_self]; rfl, rfl⟩
  case round =>
    obtain ⟨k, hk0, hk1, rfl, rfl⟩ := hrel
    obtain ⟨hb0, hb1⟩ := pw_bd (k - p) (by omega)
    by_cases hlt : k < 6
    · have E : Hid (pw (k + 1 - p) = pw (k - p) * 10) := by
        show pw (k + 1 - p) = pw (k - p) * 10
        rw [show k + 1 - p = (k - p) + 1 by omega, pw_succ]
      go_wp2
      go_round
      case rel => exact ⟨k + 1, by omega, by omega, by rw [E.out]; exact val_u64 (by omega), by go_num⟩
      case measure => simp [intOf]; omega
    · have hk' : k = 6 := by omega
      subst hk'
      clear hb0 hb1 hk0 hk1 hlt
      have hm0 : 0 ≤ H % U := Int.emod_nonneg _ (by omega)
      have hm1 : H % U < U := Int.emod_lt_of_pos _ (by omega)
      have hm2 : H % U ≤ H := by
        have := Int.emod_add_mul_ediv H U
        have h2 : 0 ≤ U * (H / U) := Int.mul_nonneg (by omega) (Int.ediv_nonneg hh0 (by omega))
        omega
      have hS := HH.out
      have hU := HU.out
      clear HH HU
      by_cases hc : U ≤ 2 * (H % U)
      · have hbt : (H % U != 0) = true := by rw [bne_iff_ne]; omega
        have ER : Hid (rh H U / 1000 = (H - H % U + U) / 1000) := by show rh H U / 1000 = _; unfold rh; rw [if_pos hc]
        have EL : Hid (lost H U = true) := hbt
        by_cases hM : 3020399000000 < (H - H % U + U) / 1000
        · go_wp2
          all_goals (go_ret2; exact ⟨leaf ET.out EQ.out ER.out (if_pos hM) rfl (if_pos hM), rfl⟩)
        · go_wp2
          all_goals (go_ret2; exact ⟨leaf ET.out EQ.out ER.out (if_neg (by omega)) rfl (by rw [EL.out]; exact if_neg (by omega)), rfl⟩)
      · have ER : Hid (rh H U / 1000 = (H - H % U) / 1000) := by show rh H U / 1000 = _; unfold rh; rw [if_neg hc]
        cases hbt : (H % U != 0)
        · have EL : Hid (lost H U = false) := hbt
          by_cases hM : 3020399000000 < (H - H % U) / 1000
          · go_wp2
            all_goals (go_ret2; exact ⟨leaf ET.out EQ.out ER.out (if_pos hM) rfl (if_pos hM), rfl⟩)
          · go_wp2
            all_goals (go_ret2; exact ⟨leaf ET.out EQ.out ER.out (if_neg (by omega)) rfl (by rw [EL.out]; exact if_neg (by omega)), rfl⟩)
        · have EL : Hid (lost H U = true) := hbt
          by_cases hM : 3020399000000 < (H - H % U) / 1000
          · go_wp2
            all_goals (go_ret2; exact ⟨leaf ET.out EQ.out ER.out (if_pos hM) rfl (if_pos hM), rfl⟩)
          · go_wp2
            all_goals (go_ret2; exact ⟨leaf ET.out EQ.out ER.out (if_neg (by omega)) rfl (by rw [EL.out]; exact if_neg (by omega)), rfl⟩)

theorem restate_any (d : Int) (p : Nat) (w : World) (h0 : -9223372036854775808 ≤ d) (h1 : d ≤ 9223372036854775807) (hp : p ≤ 6) :
    Calls Ybaf.prog 8 #[.int .i64 d, .int .i64 p] w fun e w' => e = .returned (.tuple #[.int .i64 (tmOf d (pw (6 - p))), .string (ocOf d (pw (6 - p)))]) ∧ w' = w := by
  by_cases hd : d < 0
  · by_cases hl : 3020400000000000 < -d
    · exact restate_nb d p w h0 h1 hp hd hl
    · exact restate_ns d p w h0 h1 hp hd hl
  · by_cases hl : 3020400000000000 < d
    · exact restate_pb d p w h0 h1 hp hd hl
    · exact restate_ps d p w h0 h1 hp hd hl

end Go.Proofs.YbulkavcyFmt

import Derived.Test.YbulkavcyFmtLeaves
namespace Go.Proofs.YbulkavcyFmt
open Go.RowKit
set_option linter.unusedVariables false

theorem dur_to (d : Int) (p : Nat) (u t : Int) (q : ByteArray) (w : World) (h0 : -9223372036854775808 ≤ d) (h1 : d ≤ 9223372036854775807) (hp : p ≤ 6) (hu0 : 1 ≤ u) (hu1 : u ≤ 1000000) (hc : w.cell? ⟨1, 6 - p, none⟩ = some (.int .i64 u))
    (et : tmOf d u = t) (eq : ocOf d u = q) :
    Calls Ybaf.prog 6 #[.int .i64 d, .int .i64 p] w fun e w' => e = .returned (.tuple #[.agg #[.int .i64 t, .int .u8 p], .string q, .nilIface]) ∧ Below w.heap.size w w' := by
  rw [← et, ← eq]; exact dur_any d p u w h0 h1 hp hu0 hu1 hc

theorem abs_neg (d : Int) (h0 : -9223372036854775807 ≤ d) (h1 : d ≤ 9223372036854775807) : absD (-d) = absD d := by
  unfold absD
  by_cases h : 0 ≤ d
  · by_cases hz : d = 0
    · subst hz; rfl
    · rw [if_pos h, if_neg (by omega), if_neg (by omega)]; omega
  · rw [if_neg h, if_pos (by omega), if_neg (by omega)]
theorem held_neg (d : Int) (h0 : -9223372036854775807 ≤ d) (h1 : d ≤ 9223372036854775807) : held (-d) = held d := by
  unfold held; rw [abs_neg d h0 h1]
theorem oc_neg (d u : Int) (h0 : -9223372036854775807 ≤ d) (h1 : d ≤ 9223372036854775807) : ocOf (-d) u = ocOf d u := by
  unfold ocOf mics; rw [held_neg d h0 h1]
theorem rh_zero (u : Int) (hu : 1 ≤ u) : rh 0 u = 0 := by
  unfold rh; rw [Int.zero_emod, if_neg (by omega)]; rfl
theorem tm_zero (u : Int) (hu : 1 ≤ u) : tmOf 0 u = 0 := by
  unfold tmOf mics
  rw [show held 0 = 0 from by decide, rh_zero _ (by omega)]; decide
theorem tm_neg (d u : Int) (hu : 1 ≤ u) (h0 : -9223372036854775807 ≤ d) (h1 : d ≤ 9223372036854775807) : tmOf (-d) u = -(tmOf d u) := by
  by_cases hz : d = 0
  · subst hz; rw [Int.neg_zero, tm_zero u hu]; rfl
  · unfold tmOf mics
    rw [held_neg d h0 h1]
    unfold sgn
    by_cases h : d < 0
    · rw [show decide (-d < 0) = false from by simp; omega, show decide (d < 0) = true from by simp [h]]; simp
    · rw [show decide (-d < 0) = true from by simp; omega, show decide (d < 0) = false from by simp; omega]; simp
theorem tm_bd (d u : Int) (hu : 1 ≤ u) (h0 : -9223372036854775808 ≤ d) (h1 : d ≤ 9223372036854775807) : -3020399000000 ≤ tmOf d u ∧ tmOf d u ≤ 3020399000000 := by
  have hh := held_bd d h0 h1
  have hr := rh_bd (held d) (1000 * u) hh.1 (by omega)
  have hc : 0 ≤ clipM (mics d u) ∧ clipM (mics d u) ≤ 3020399000000 := by
    unfold clipM mics; split <;> omega
  unfold tmOf sgn; split <;> omega
theorem wrap_bd (x : Int) : -9223372036854775808 ≤ wrap64 x ∧ wrap64 x ≤ 9223372036854775807 := by
  unfold wrap64; omega

set_option maxHeartbeats 400000 in
theorem negate_min (n s ps : Int) (w : World) (hs0 : 0 ≤ s) (hs1 : s < 256) (hm : wrap64 (n * mult s) = -9223372036854775808) :
    Calls Ybaf.prog 4 #[.int .i64 n, .int .u8 s, .int .u8 ps] w fun e w' => e = .returned (.bool true) ∧ Below w.heap.size w w' := by
  have hb : (wrap64 (n * mult s) == -9223372036854775808) = true := by rw [hm]; rfl
  clear hm
  go_enter Ybaf.func4, Ybaf.ntmps4
  go_wp2_with (go_at_call 5; refine (mult_any _ _ hs0 hs1).mono ?_; rintro e w' ⟨rfl, rfl⟩)
  go_ret
  exact ⟨rfl, Below.refl _ _⟩

set_option maxHeartbeats 1000000 in
theorem negate_near (n s ps : Int) (w : World) (hs0 : 0 ≤ s) (hs1 : s < 256) (hm : ¬ wrap64 (n * mult s) = -9223372036854775808) (hps0 : 0 ≤ ps) (hps1 : ps < 256) (p : Nat) (hp6 : p ≤ 6) (hp : ps % 7 = p) (hc : w.cell? ⟨1, 6 - p, none⟩ = some (.int .i64 (pw (6 - p)))) :
    Calls Ybaf.prog 4 #[.int .i64 n, .int .u8 s, .int .u8 ps] w fun e w' => e = .returned (.bool true) ∧ Below w.heap.size w w' := by
  have hb : (wrap64 (n * mult s) == -9223372036854775808) = false := by rw [beq_eq_false_iff_ne]; exact hm
  obtain ⟨hd0', hd1⟩ := wrap_bd (n * mult s)
  have hd0 : -9223372036854775807 ≤ wrap64 (n * mult s) := by omega
  clear hm hd0'
  obtain ⟨hu0, hu1⟩ := pw_bd (6 - p) (by omega)
  obtain ⟨t, ht⟩ : ∃ t, tmOf (wrap64 (n * mult s)) (pw (6 - p)) = t := ⟨_, rfl⟩
  obtain ⟨q, hq⟩ : ∃ q, ocOf (wrap64 (n * mult s)) (pw (6 - p)) = q := ⟨_, rfl⟩
  have ET2 : Hid (tmOf (-wrap64 (n * mult s)) (pw (6 - p)) = -t) := by show tmOf _ _ = _; rw [tm_neg _ _ hu0 hd0 hd1, ht]
  have EQ2 : Hid (ocOf (-wrap64 (n * mult s)) (pw (6 - p)) = q) := by show ocOf _ _ = _; rw [oc_neg _ _ hd0 hd1, hq]
  have hb := tm_bd (wrap64 (n * mult s)) (pw (6 - p)) hu0 (by omega) hd1
  rw [ht] at hb
  obtain ⟨ht0, ht1⟩ := hb
  have ET : Hid (tmOf (wrap64 (n * mult s)) (pw (6 - p)) = t) := ht
  have EQ : Hid (ocOf (wrap64 (n * mult s)) (pw (6 - p)) = q) := hq
  clear ht hq
  have hz : 1 < w.heap.size := World.block_lt_of_cell? w _ hc
  go_enter Ybaf.func4, Ybaf.ntmps4
  go_wp2_with (go_at_call 5; refine (mult_any _ _ hs0 hs1).mono ?_; rintro e w' ⟨rfl, rfl⟩)
  refine (dur_to _ _ _ _ _ _ (by omega) hd1 hp6 hu0 hu1 hc ET.out EQ.out).mono ?_
  rintro e w1 ⟨rfl, hb1⟩
  have z1 := hb1.size
  have k1 : w1.cell? ⟨1, 6 - p, none⟩ = some (.int .i64 (pw (6 - p))) := (hb1.cell (p := ⟨1, 6 - p, none⟩) hz).trans hc
  go_wp2_with fail
  refine (dur_to _ _ _ _ _ _ (by omega) (by omega) hp6 hu0 hu1 (cell_up k1 _) ET2.out EQ2.out).mono ?_
  rintro e w2 ⟨rfl, hb2⟩
  have z2 := hb2.size
  rw [World.size_alloc] at z2
  have zl : w1.heap.size < w2.heap.size := by omega
  have q20 : w2.cell? ⟨w1.heap.size, 0, none⟩ = some (.int .i64 t) := (hb2.cell (p := ⟨w1.heap.size, 0, none⟩) (by rw [World.size_alloc]; exact Nat.lt_succ_self _)).trans (cell_new w1 _ _ _).1
  have q21 : w2.cell? ⟨w1.heap.size, 1, none⟩ = some (.int .u8 p) := (hb2.cell (p := ⟨w1.heap.size, 1, none⟩) (by rw [World.size_alloc]; exact Nat.lt_succ_self _)).trans (cell_new w1 _ _ _).2
  have B2 : Hid (Below w'.heap.size w' w2) := (hb1.alloc z1 _).trans (hb2.mono (by rw [World.size_alloc]; omega))
  clear hb1 hb2 k1 z2
  go_wp2
  go_ret
  exact ⟨rfl, B2.out.alloc (by omega) _⟩

/-- THE WALK, WHOLE. -/
theorem negate_any (n s ps : Int) (w : World) (hs0 : 0 ≤ s) (hs1 : s < 256) (hps0 : 0 ≤ ps) (hps1 : ps < 256) (hT : ∀ j, j ≤ 6 → w.cell? ⟨1, j, none⟩ = some (.int .i64 (pw j))) :
    Calls Ybaf.prog 4 #[.int .i64 n, .int .u8 s, .int .u8 ps] w fun e w' => e = .returned (.bool true) ∧ Below w.heap.size w w' := by
  obtain ⟨p, hp⟩ := Int.eq_ofNat_of_zero_le (show 0 ≤ ps % 7 by omega)
  have hp6 : p ≤ 6 := by omega
  by_cases hm : wrap64 (n * mult s) = -9223372036854775808
  · exact negate_min n s ps w hs0 hs1 hm
  · exact negate_near n s ps w hs0 hs1 hm hps0 hps1 p hp6 hp (hT _ (by omega))
end Go.Proofs.YbulkavcyFmt

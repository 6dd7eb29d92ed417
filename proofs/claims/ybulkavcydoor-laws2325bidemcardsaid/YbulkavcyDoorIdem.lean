import Derived.Test.YbulkavcyDoorModel
namespace Go.Proofs.YbulkavcyDoor
open Go.RowKit
set_option linter.unusedVariables false

theorem rh_facts (n : Nat) (hn : n ≤ 6) (a : Int) (h0 : 0 ≤ a) : rh a (pw n) % pw n = 0 ∧ rh a (pw n) - a ≤ pw n / 2 ∧ a - rh a (pw n) ≤ pw n / 2 := by
  unfold rh
  match n, hn with
  | 0, _ => rw [show pw 0 = 1 from rfl]; split <;> omega
  | 1, _ => rw [show pw 1 = 10 from rfl]; split <;> omega
  | 2, _ => rw [show pw 2 = 100 from rfl]; split <;> omega
  | 3, _ => rw [show pw 3 = 1000 from rfl]; split <;> omega
  | 4, _ => rw [show pw 4 = 10000 from rfl]; split <;> omega
  | 5, _ => rw [show pw 5 = 100000 from rfl]; split <;> omega
  | 6, _ => rw [show pw 6 = 1000000 from rfl]; split <;> omega
theorem rh_zero (u : Int) (hu : 1 ≤ u) : rh 0 u = 0 := by
  unfold rh; rw [Int.zero_emod, if_neg (by omega)]; rfl
theorem rh_same (a u : Int) (hu : 1 ≤ u) (h : a % u = 0) : rh a u = a := by
  unfold rh; rw [h, if_neg (by omega)]; omega
theorem mag_neg (m : Int) : mag (-m) = mag m := by unfold mag; split <;> split <;> omega
theorem mag_nonneg (m : Int) : 0 ≤ mag m := by unfold mag; split <;> omega
theorem rd_neg (m u : Int) (hu : 1 ≤ u) : rd (-m) u = -rd m u := by
  unfold rd
  rw [mag_neg]
  by_cases h : m = 0
  · subst h; rw [show mag 0 = 0 from rfl, rh_zero u hu]; rfl
  · split <;> split <;> omega
theorem mag_rd (n : Nat) (hn : n ≤ 6) (m : Int) : mag (rd m (pw n)) = rh (mag m) (pw n) := by
  have h := rh_bd (mag m) (pw n) (mag_nonneg m) (pw_bd n hn).1
  unfold rd
  by_cases hm : m < 0
  · rw [if_pos hm, mag_neg]; unfold mag at *; rw [if_neg (by omega)]
  · rw [if_neg hm]; generalize rh (mag m) (pw n) = x at *; unfold mag; rw [if_neg (by omega)]
theorem lost_rd (n : Nat) (hn : n ≤ 6) (m : Int) : lost (mag (rd m (pw n))) (pw n) = false := by
  rw [mag_rd n hn]; unfold lost; rw [(rh_facts n hn _ (mag_nonneg m)).1]; rfl
theorem rd_rd (n : Nat) (hn : n ≤ 6) (m : Int) : rd (rd m (pw n)) (pw n) = rd m (pw n) := by
  have hu := (pw_bd n hn).1
  have h := rh_bd (mag m) (pw n) (mag_nonneg m) hu
  have e : rh (mag (rd m (pw n))) (pw n) = mag (rd m (pw n)) := by rw [mag_rd n hn]; exact rh_same _ _ hu (rh_facts n hn _ (mag_nonneg m)).1
  generalize rd m (pw n) = r at *
  unfold rd
  rw [e]
  unfold mag
  split <;> omega
theorem rd_near (n : Nat) (hn : n ≤ 6) (m : Int) : rd m (pw n) - m ≤ pw n / 2 ∧ m - rd m (pw n) ≤ pw n / 2 := by
  have h := rh_facts n hn (mag m) (mag_nonneg m)
  have e : mag m = if m < 0 then -m else m := rfl
  unfold rd
  split <;> rename_i hm
  · rw [if_pos hm] at e; omega
  · rw [if_neg hm] at e; omega

theorem bcell {W w1 : World} (hb : Below W.heap.size W w1) : (∀ b o, b < W.heap.size → w1.cell? ⟨b, o, none⟩ = W.cell? ⟨b, o, none⟩) ∧ (∀ b o, b < W.heap.size → w1.frozen? ⟨b, o, none⟩ = W.frozen? ⟨b, o, none⟩) :=
  ⟨fun b o h => hb.cell (p := ⟨b, o, none⟩) h, fun b o h => hb.frozen (p := ⟨b, o, none⟩) h⟩

theorem cell_new (w : World) (a b : Value) (t : TypeId) : (w.alloc (.cells #[a, b] t)).cell? ⟨w.heap.size, 0, none⟩ = some a ∧ (w.alloc (.cells #[a, b] t)).cell? ⟨w.heap.size, 1, none⟩ = some b := by
  simp [go_sem]

set_option maxHeartbeats 400000 in
theorem idem_far (m pu : Int) (w : World) (h : m < -3020399000000 ∨ 3020399000000 < m) :
    Calls Ybad.prog 4 #[.int .i64 m, .int .u8 pu] w fun e w' => e = .returned (.bool true) ∧ Below w.heap.size w w' := by
  rcases h with h | h
  · go_enter Ybad.func4, Ybad.ntmps4
    go_wp2
    go_ret
    exact ⟨rfl, Below.refl _ _⟩
  · have h' : ¬ m < -3020399000000 := by omega
    go_enter Ybad.func4, Ybad.ntmps4
    go_wp2
    go_ret
    exact ⟨rfl, Below.refl _ _⟩

set_option maxHeartbeats 1000000 in
theorem idem_near (m pu : Int) (w : World) (h0 : -3020399000000 ≤ m) (h1 : m ≤ 3020399000000) (hpu0 : 0 ≤ pu) (hpu1 : pu < 256) (p : Nat) (hp6 : p ≤ 6) (hp : pu % 7 = p) (hc : w.cell? ⟨0, 6 - p, none⟩ = some (.int .i64 (pw (6 - p)))) :
    Calls Ybad.prog 4 #[.int .i64 m, .int .u8 pu] w fun e w' => e = .returned (.bool true) ∧ Below w.heap.size w w' := by
  obtain ⟨hu0, hu1⟩ := pw_bd (6 - p) (by omega)
  obtain ⟨r, hr⟩ : ∃ r, rd m (pw (6 - p)) = r := ⟨_, rfl⟩
  obtain ⟨s, hs⟩ : ∃ s, word (lost (mag m) (pw (6 - p))) = s := ⟨_, rfl⟩
  have hn := rd_near (6 - p) (by omega) m
  rw [hr] at hn
  obtain ⟨hn0, hn1⟩ := hn
  have ER2 : Hid (rd r (pw (6 - p)) = r) := by show rd r _ = r; rw [← hr]; exact rd_rd (6 - p) (by omega) m
  have ES2 : Hid (word (lost (mag r) (pw (6 - p))) = ⟨#[101, 120, 97, 99, 116]⟩) := by show word _ = _; rw [← hr, lost_rd (6 - p) (by omega)]; rfl
  have ER3 : Hid (rd (-m) (pw (6 - p)) = -r) := by show rd (-m) _ = _; rw [rd_neg _ _ hu0, hr]
  have ES3 : Hid (word (lost (mag (-m)) (pw (6 - p))) = s) := by show word _ = _; rw [mag_neg]; exact hs
  have ER : Hid (rd m (pw (6 - p)) = r) := hr
  have ES : Hid (word (lost (mag m) (pw (6 - p))) = s) := hs
  clear hr hs
  have hz : 0 < w.heap.size := World.block_lt_of_cell? w _ hc
  go_enter Ybad.func4, Ybad.ntmps4
  go_wp2_with (go_at_call 5; refine (unit_any p _ hp6).mono ?_; rintro e w' ⟨rfl, rfl⟩)
  refine (round_to _ _ _ _ _ _ hp6 (by omega) (by omega) hc ER.out ES.out).mono ?_
  rintro e w1 ⟨rfl, hb1⟩
  obtain ⟨c1, f1⟩ := bcell hb1
  have z1 := hb1.size
  have k1 : w1.cell? ⟨0, 6 - p, none⟩ = some (.int .i64 (pw (6 - p))) := by rw [c1 _ _ hz]; exact hc
  go_wp2_with fail
  refine (round_to _ _ _ _ _ _ hp6 (by omega) (by omega) (cell_up k1 _) ER2.out ES2.out).mono ?_
  rintro e w2 ⟨rfl, hb2⟩
  obtain ⟨c2, f2⟩ := bcell hb2
  have z2 := hb2.size
  have k2 : w2.cell? ⟨0, 6 - p, none⟩ = some (.int .i64 (pw (6 - p))) := (c2 _ _ (by rw [World.size_alloc]; omega)).trans (cell_up k1 _)
  have q20 : w2.cell? ⟨w1.heap.size, 0, none⟩ = some (.int .i64 r) := (c2 _ _ (by rw [World.size_alloc]; omega)).trans (cell_new w1 _ _ _).1
  have q21 : w2.cell? ⟨w1.heap.size, 1, none⟩ = some (.int .u8 p) := (c2 _ _ (by rw [World.size_alloc]; omega)).trans (cell_new w1 _ _ _).2
  have zl : w1.heap.size < w2.heap.size := by rw [World.size_alloc] at z2; omega
  clear z2
  clear c2 f2 c1 f1
  have B2 : Hid (Below w'.heap.size w' w2) := (hb1.alloc z1 _).trans (hb2.mono (by rw [World.size_alloc]; omega))
  clear hb1 hb2 k1
  by_cases hd : r - m < 0
  all_goals
    go_wp2_with fail
    refine (round_to _ _ _ _ _ _ hp6 (by omega) (by omega) (cell_up k2 _) ER3.out ES3.out).mono ?_
    rintro e w3 ⟨rfl, hb3⟩
    obtain ⟨c3, f3⟩ := bcell hb3
    have z3 := hb3.size
    rw [World.size_alloc] at z3
    have k3 : w3.cell? ⟨0, 6 - p, none⟩ = some (.int .i64 (pw (6 - p))) := (c3 _ _ (by rw [World.size_alloc]; omega)).trans (cell_up k2 _)
    have q30 : w3.cell? ⟨w1.heap.size, 0, none⟩ = some (.int .i64 r) := (c3 _ _ (by rw [World.size_alloc]; omega)).trans (cell_up q20 _)
    have zl3 : w1.heap.size < w3.heap.size := by omega
    have B3 : Hid (Below w'.heap.size w' w3) := (B2.out.alloc (by omega) _).trans (hb3.mono (by rw [World.size_alloc]; omega))
    have zz : w'.heap.size ≤ w3.heap.size := by omega
    clear hb3 c3 f3 q20 q21 k2 B2 z3
    go_wp2_with fail
    refine (round_to _ _ _ _ _ _ hp6 (by omega) (by omega) (cell_up k3 _) ER.out ES.out).mono ?_
    rintro e w4 ⟨rfl, hb4⟩
    obtain ⟨c4, f4⟩ := bcell hb4
    have z4 := hb4.size
    rw [World.size_alloc] at z4
    have q40 : w4.cell? ⟨w1.heap.size, 0, none⟩ = some (.int .i64 r) := (c4 _ _ (by rw [World.size_alloc]; omega)).trans (cell_up q30 _)
    have n40 : w4.cell? ⟨w3.heap.size, 0, none⟩ = some (.int .i64 (-r)) := (c4 _ _ (by rw [World.size_alloc]; omega)).trans (cell_new w3 _ _ _).1
    have n41 : w4.cell? ⟨w3.heap.size, 1, none⟩ = some (.int .u8 p) := (c4 _ _ (by rw [World.size_alloc]; omega)).trans (cell_new w3 _ _ _).2
    have zl4 : w1.heap.size < w4.heap.size := by omega
    have zn4 : w3.heap.size < w4.heap.size := by omega
    have B4 : Hid (Below w'.heap.size w' w4) := (B3.out.alloc (by omega) _).trans (hb4.mono (by rw [World.size_alloc]; omega))
    clear hb4 c4 f4 q30 k3 B3 z4
    go_wp2
    go_ret
    exact ⟨rfl, B4.out.alloc (by omega) _⟩
/-- THE WALK, WHOLE. -/
theorem idem_any (m pu : Int) (w : World) (hpu0 : 0 ≤ pu) (hpu1 : pu < 256) (hT : ∀ j, j ≤ 6 → w.cell? ⟨0, j, none⟩ = some (.int .i64 (pw j))) :
    Calls Ybad.prog 4 #[.int .i64 m, .int .u8 pu] w fun e w' => e = .returned (.bool true) ∧ Below w.heap.size w w' := by
  obtain ⟨p, hp⟩ := Int.eq_ofNat_of_zero_le (show 0 ≤ pu % 7 by omega)
  have hp6 : p ≤ 6 := by omega
  by_cases hf : m < -3020399000000 ∨ 3020399000000 < m
  · exact idem_far m pu w hf
  · exact idem_near m pu w (by omega) (by omega) hpu0 hpu1 p hp6 hp (hT _ (by omega))
end Go.Proofs.YbulkavcyDoor

import Derived.Test.YbulkavcyFmtNegate
import Derived.Test.YbulkavcyFmtRestate
import Derived.Test.YbulkavcyFmtBad
import Derived.Test.YbulkavcyFmtIs
namespace Go.Proofs.YbulkavcyFmt
open Go.RowKit Go.Extern.Stop Go.Stop Go.Extern
set_option linter.unusedVariables false

theorem restate_to (d : Int) (p : Nat) (t : Int) (q : ByteArray) (w : World) (h0 : -9223372036854775808 ≤ d) (h1 : d ≤ 9223372036854775807) (hp : p ≤ 6) (et : tmOf d (pw (6 - p)) = t) (eq : ocOf d (pw (6 - p)) = q) :
    Calls Ybaf.prog 8 #[.int .i64 d, .int .i64 p] w fun e w' => e = .returned (.tuple #[.int .i64 t, .string q]) ∧ w' = w := by
  rw [← et, ← eq]; exact restate_any d p w h0 h1 hp

set_option maxHeartbeats 1000000 in
theorem model_good (n s : Int) (p : Nat) (w : World) (hs0 : 0 ≤ s) (hs1 : s < 256) (hp6 : p ≤ 6) (hc : w.cell? ⟨1, 6 - p, none⟩ = some (.int .i64 (pw (6 - p)))) :
    Calls Ybaf.prog 3 #[.int .i64 n, .int .u8 s, .int .i64 p] w fun e w' => e = .returned (.bool true) ∧ Below w.heap.size w w' := by
  obtain ⟨hd0, hd1⟩ := wrap_bd (n * mult s)
  obtain ⟨hu0, hu1⟩ := pw_bd (6 - p) (by omega)
  obtain ⟨t, ht⟩ : ∃ t, tmOf (wrap64 (n * mult s)) (pw (6 - p)) = t := ⟨_, rfl⟩
  obtain ⟨q, hq⟩ : ∃ q, ocOf (wrap64 (n * mult s)) (pw (6 - p)) = q := ⟨_, rfl⟩
  have ET : Hid (tmOf (wrap64 (n * mult s)) (pw (6 - p)) = t) := ht
  have EQ : Hid (ocOf (wrap64 (n * mult s)) (pw (6 - p)) = q) := hq
  clear ht hq
  go_enter Ybaf.func3, Ybaf.ntmps3
  go_wp2_with (go_at_call 5; refine (mult_any _ _ hs0 hs1).mono ?_; rintro e w' ⟨rfl, rfl⟩)
  refine (dur_to _ _ _ _ _ _ (by omega) hd1 hp6 hu0 hu1 hc ET.out EQ.out).mono ?_
  rintro e w1 ⟨rfl, hb1⟩
  have z1 := hb1.size
  go_wp2_with (go_at_call 8; refine (restate_to _ _ _ _ _ (by omega) (by omega) hp6 ET.out EQ.out).mono ?_; rintro e w2 ⟨rfl, rfl⟩)
  go_ret
  exact ⟨rfl, hb1.alloc z1 _⟩

set_option maxHeartbeats 1000000 in
theorem model_bad (F : Interp) (n s p : Int) (a : Addr) (tx : ByteArray) (w : World) (hF : F.answers w.tape) (hs0 : 0 ≤ s) (hs1 : s < 256) (hp : p < 0 ∨ 6 < p) (hg : w.cell? ⟨0, 0, none⟩ = some (.iface 65 (.pointer (some a)))) (hs : w.cell? a = some (.string tx)) :
    Calls Ybaf.prog 3 #[.int .i64 n, .int .u8 s, .int .i64 p] w fun e w' => e = .returned (.bool true) ∧ Below w.heap.size w w' := by
  have hz : 0 < w.heap.size := World.block_lt_of_cell? w _ hg
  rcases hp with hp | hp
  · skip
    go_enter Ybaf.func3, Ybaf.ntmps3
    go_wp2_with (go_at_call 5; refine (mult_any _ _ hs0 hs1).mono ?_; rintro e w' ⟨rfl, rfl⟩)
    refine (dur_bad F _ _ a tx _ (by exact hF) (by omega) hg hs).mono ?_
    rintro e w1 ⟨N, rfl, hN, hNg, hNl, hb1⟩
    have z1 := hb1.size
    have k1 : w1.cell? ⟨0, 0, none⟩ = some (.iface 65 (.pointer (some a))) := (hb1.cell (p := ⟨0, 0, none⟩) hz).trans hg
    have z0 : 0 < w1.heap.size := by omega
    go_wp2_with (go_at_call 7; refine (is_wrap_same N 0 a _ (cell_up hN _)).mono ?_; rintro e w2 ⟨rfl, rfl⟩)
    go_ret
    exact ⟨rfl, hb1.alloc z1 _⟩
  · have hp' : ¬ p < 0 := by omega
    go_enter Ybaf.func3, Ybaf.ntmps3
    go_wp2_with (go_at_call 5; refine (mult_any _ _ hs0 hs1).mono ?_; rintro e w' ⟨rfl, rfl⟩)
    refine (dur_bad F _ _ a tx _ (by exact hF) (by omega) hg hs).mono ?_
    rintro e w1 ⟨N, rfl, hN, hNg, hNl, hb1⟩
    have z1 := hb1.size
    have k1 : w1.cell? ⟨0, 0, none⟩ = some (.iface 65 (.pointer (some a))) := (hb1.cell (p := ⟨0, 0, none⟩) hz).trans hg
    have z0 : 0 < w1.heap.size := by omega
    go_wp2_with (go_at_call 7; refine (is_wrap_same N 0 a _ (cell_up hN _)).mono ?_; rintro e w2 ⟨rfl, rfl⟩)
    go_ret
    exact ⟨rfl, hb1.alloc z1 _⟩

/-- THE WALK, WHOLE. -/
theorem model_any (F : Interp) (n s p : Int) (a : Addr) (tx : ByteArray) (w : World) (hF : F.answers w.tape) (hs0 : 0 ≤ s) (hs1 : s < 256) (hg : w.cell? ⟨0, 0, none⟩ = some (.iface 65 (.pointer (some a)))) (hs : w.cell? a = some (.string tx))
    (hT : ∀ j, j ≤ 6 → w.cell? ⟨1, j, none⟩ = some (.int .i64 (pw j))) :
    Calls Ybaf.prog 3 #[.int .i64 n, .int .u8 s, .int .i64 p] w fun e w' => e = .returned (.bool true) ∧ Below w.heap.size w w' := by
  by_cases hp : p < 0 ∨ 6 < p
  · exact model_bad F n s p a tx w hF hs0 hs1 hp hg hs
  · obtain ⟨k, rfl⟩ := Int.eq_ofNat_of_zero_le (show 0 ≤ p by omega)
    exact model_good n s k w hs0 hs1 (by omega) (hT _ (by omega))
end Go.Proofs.YbulkavcyFmt

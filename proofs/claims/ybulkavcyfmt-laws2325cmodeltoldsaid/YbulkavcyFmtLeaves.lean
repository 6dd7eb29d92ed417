import Derived.Test.YbulkavcyFmtRows
import Derived.WalkKit
import Derived.WalkSpells
import Derived.WalkLawsBesides
import Derived.Below
namespace Go.Proofs.YbulkavcyFmt
open Go.RowKit
set_option linter.unusedVariables false

/-- Half up to a multiple of u. -/
def rh (v u : Int) : Int := if u ≤ 2 * (v % u) then v - v % u + u else v - v % u
def lost (v u : Int) : Bool := v % u != 0
def pw (n : Nat) : Int := 10 ^ n
theorem pw_bd (n : Nat) (h : n ≤ 6) : 1 ≤ pw n ∧ pw n ≤ 1000000 := by
  match n, h with
  | 0, _ => decide
  | 1, _ => decide
  | 2, _ => decide
  | 3, _ => decide
  | 4, _ => decide
  | 5, _ => decide
  | 6, _ => decide
theorem pw_succ (n : Nat) : pw (n + 1) = pw n * 10 := Int.pow_succ _ _

theorem rh_bd (v u : Int) (h0 : 0 ≤ v) (hu : 1 ≤ u) : 0 ≤ rh v u ∧ rh v u ≤ v + u := by
  have hm0 : 0 ≤ v % u := Int.emod_nonneg _ (by omega)
  have hm1 : v % u < u := Int.emod_lt_of_pos _ (by omega)
  have hm2 : v % u ≤ v := by
    have := Int.emod_add_mul_ediv v u
    have h2 : 0 ≤ u * (v / u) := Int.mul_nonneg (by omega) (Int.ediv_nonneg h0 (by omega))
    omega
  unfold rh
  split <;> omega

theorem ret_ib {a b : Int} {c d : Bool} (h : a = b) (h' : c = d) : Ending.returned (.tuple #[.int .i64 a, .bool c]) = .returned (.tuple #[.int .i64 b, .bool d]) := by rw [h, h']
theorem ret_int {k : IntKind} {a b : Int} (h : a = b) : Ending.returned (.int k a) = .returned (.int k b) := by rw [h]

set_option maxHeartbeats 400000 in
theorem half_any (v u : Int) (w : World) (h0 : 0 ≤ v) (h1 : v ≤ 3020400000000000) (hu0 : 1 ≤ u) (hu1 : u ≤ 1000000000) :
    Calls Ybaf.prog 17 #[.int .i64 v, .int .i64 u] w fun e w' => e = .returned (.tuple #[.int .i64 (rh v u), .bool (lost v u)]) ∧ w' = w := by
  have hm0 : 0 ≤ v % u := Int.emod_nonneg _ (by omega)
  have hm1 : v % u < u := Int.emod_lt_of_pos _ (by omega)
  by_cases hc : u ≤ 2 * (v % u)
  · have e : Hid (rh v u = v - v % u + u) := if_pos hc
    go_enter Ybaf.func17, Ybaf.ntmps17
    go_wp2
    go_ret2
    exact ⟨ret_ib e.out.symm rfl, rfl⟩
  · have e : Hid (rh v u = v - v % u) := if_neg hc
    go_enter Ybaf.func17, Ybaf.ntmps17
    go_wp2
    go_ret2
    exact ⟨ret_ib e.out.symm rfl, rfl⟩

set_option maxHeartbeats 400000 in
theorem nanos_any (v u : Int) (p : Nat) (w : World) (hp : p ≤ 6) (h0 : 0 ≤ v) (h1 : v ≤ 3020400000000000) (hu0 : 1 ≤ u) (hu1 : u ≤ 1000000) (hc : w.cell? ⟨1, 6 - p, none⟩ = some (.int .i64 u)) :
    Calls Ybaf.prog 11 #[.int .i64 v, .int .i64 p] w fun e w' => e = .returned (.tuple #[.int .i64 (rh v (1000 * u) / 1000), .bool (lost v (1000 * u))]) ∧ w' = w := by
  obtain ⟨hr0, hr1⟩ := rh_bd v (1000 * u) h0 (by omega)
  go_enter Ybaf.func11, Ybaf.ntmps11
  go_wp2_with (go_at_call 17; refine (half_any _ _ _ h0 h1 (by omega) (by omega)).mono ?_; rintro e w' ⟨rfl, rfl⟩)
  go_ret2
  exact ⟨rfl, rfl⟩

/-- The magnitude of a length of time, as Duration.Abs has it. -/
def absD (d : Int) : Int := if 0 ≤ d then d else if d = -9223372036854775808 then 9223372036854775807 else -d

set_option maxHeartbeats 400000 in
theorem abs_any (d : Int) (w : World) (h0 : -9223372036854775808 ≤ d) (h1 : d ≤ 9223372036854775807) :
    Calls Ybaf.prog 10 #[.int .i64 d] w fun e w' => e = .returned (.int .i64 (absD d)) ∧ w' = w := by
  by_cases h : 0 ≤ d
  · have e : Hid (absD d = d) := if_pos h
    go_enter Ybaf.func10, Ybaf.ntmps10
    go_wp2
    go_ret
    exact ⟨ret_int e.out.symm, rfl⟩
  · by_cases hm : d = -9223372036854775808
    · subst hm
      go_enter Ybaf.func10, Ybaf.ntmps10
      go_wp2
      go_ret
      exact ⟨rfl, rfl⟩
    · have e : Hid (absD d = -d) := by show absD d = -d; unfold absD; rw [if_neg h, if_neg hm]
      have hb : -9223372036854775807 ≤ d := by omega
      go_enter Ybaf.func10, Ybaf.ntmps10
      go_wp2
      go_ret
      exact ⟨ret_int e.out.symm, rfl⟩

set_option maxHeartbeats 400000 in
theorem check_ok (p : Int) (w : World) (h0 : 0 ≤ p) (h1 : p ≤ 6) :
    Calls Ybaf.prog 9 #[.int .i64 p] w fun e w' => e = .returned .nilIface ∧ w' = w := by
  go_enter Ybaf.func9, Ybaf.ntmps9
  go_wp2
  go_ret
  exact ⟨rfl, rfl⟩

/-- zzs2325cmult. -/
def mult (s : Int) : Int := if s % 5 = 0 then 1 else if s % 5 = 1 then 1000 else if s % 5 = 2 then 1000000 else if s % 5 = 3 then 1000000000 else 3600000000000
set_option maxHeartbeats 400000 in
theorem mult_any (s : Int) (w : World) (h0 : 0 ≤ s) (h1 : s < 256) :
    Calls Ybaf.prog 5 #[.int .u8 s] w fun e w' => e = .returned (.int .i64 (mult s)) ∧ w' = w := by
  have hs : s % 5 = 0 ∨ s % 5 = 1 ∨ s % 5 = 2 ∨ s % 5 = 3 ∨ s % 5 = 4 := by omega
  unfold mult
  rcases hs with h | h | h | h | h
  all_goals
    rw [h]
    go_enter Ybaf.func5, Ybaf.ntmps5
    go_wp2
    go_ret
    exact ⟨rfl, rfl⟩

theorem cell_up {w : World} {a : Addr} {v : Value} (h : w.cell? a = some v) (o : Obj) : (w.alloc o).cell? a = some v :=
  (World.cell?_alloc_lt w o a (World.block_lt_of_cell? w a h)).trans h

def warned : ByteArray := ⟨#[119, 97, 114, 110, 105, 110, 103]⟩
def rounded : ByteArray := ⟨#[114, 111, 117, 110, 100, 101, 100]⟩
def exactly : ByteArray := ⟨#[101, 120, 97, 99, 116]⟩
def word (b : Bool) : ByteArray := if b then rounded else exactly
/-- What clipTime makes of a magnitude and an outcome. -/
def clipM (m : Int) : Int := if 3020399000000 < m then 3020399000000 else m
def clipO (m : Int) (o : ByteArray) : ByteArray := if 3020399000000 < m then warned else o
def sgn (neg : Bool) (m : Int) : Int := if neg then -m else m

set_option maxHeartbeats 400000 in
theorem clip_any (neg : Bool) (m : Int) (p : Nat) (o : ByteArray) (w : World) (h0 : 0 ≤ m) (h1 : m ≤ 4000000000000) (hp : p ≤ 6) :
    Calls Ybaf.prog 12 #[.bool neg, .int .i64 m, .int .i64 p, .string o] w fun e w' => e = .returned (.tuple #[.agg #[.int .i64 (sgn neg (clipM m)), .int .u8 p], .string (clipO m o)]) ∧ Below w.heap.size w w' := by
  by_cases hm : 3020399000000 < m
  · have e1 : Hid (clipM m = 3020399000000) := if_pos hm
    have e2 : Hid (clipO m o = warned) := if_pos hm
    cases neg
    all_goals
      go_enter Ybaf.func12, Ybaf.ntmps12
      go_wp2
      rw [e1.out, e2.out]
    · exact bodyPost_ret (v := .tuple #[.agg #[.int .i64 3020399000000, .int .u8 p], .string warned]) (by simp [results, Ybaf.results12, go_sem, warned]) rfl ⟨rfl, (Below.refl _ _).alloc (Nat.le_refl _) _⟩
    · exact bodyPost_ret (v := .tuple #[.agg #[.int .i64 (-3020399000000), .int .u8 p], .string warned]) (by simp [results, Ybaf.results12, go_sem, warned]) rfl ⟨rfl, (Below.refl _ _).alloc (Nat.le_refl _) _⟩
  · have e1 : Hid (clipM m = m) := if_neg hm
    have e2 : Hid (clipO m o = o) := if_neg hm
    cases neg
    all_goals
      go_enter Ybaf.func12, Ybaf.ntmps12
      go_wp2
      rw [e1.out, e2.out]
    · exact bodyPost_ret (v := .tuple #[.agg #[.int .i64 m, .int .u8 p], .string o]) (by simp [results, Ybaf.results12, go_sem]) rfl ⟨rfl, (Below.refl _ _).alloc (Nat.le_refl _) _⟩
    · exact bodyPost_ret (v := .tuple #[.agg #[.int .i64 (-m), .int .u8 p], .string o]) (by simp [results, Ybaf.results12, go_sem]) rfl ⟨rfl, (Below.refl _ _).alloc (Nat.le_refl _) _⟩

/-- The magnitude that is rounded; its microseconds; the outcome; at u = pow10 of 6 - p. -/
def held (d : Int) : Int := if 3020400000000000 < absD d then 3020400000000000 else absD d
def mics (d u : Int) : Int := rh (held d) (1000 * u) / 1000
def tmOf (d u : Int) : Int := sgn (decide (d < 0)) (clipM (mics d u))
def ocOf (d u : Int) : ByteArray := clipO (mics d u) (word (lost (held d) (1000 * u)))
theorem abs_bd (d : Int) (h0 : -9223372036854775808 ≤ d) (h1 : d ≤ 9223372036854775807) : 0 ≤ absD d ∧ absD d ≤ 9223372036854775807 := by
  unfold absD
  split
  · omega
  · split <;> omega
theorem held_bd (d : Int) (h0 : -9223372036854775808 ≤ d) (h1 : d ≤ 9223372036854775807) : 0 ≤ held d ∧ held d ≤ 3020400000000000 := by
  have := abs_bd d h0 h1
  unfold held; split <;> omega

theorem nanos_to (v u : Int) (p : Nat) (r : Int) (b : Bool) (w : World) (hp : p ≤ 6) (h0 : 0 ≤ v) (h1 : v ≤ 3020400000000000) (hu0 : 1 ≤ u) (hu1 : u ≤ 1000000) (hc : w.cell? ⟨1, 6 - p, none⟩ = some (.int .i64 u))
    (er : rh v (1000 * u) / 1000 = r) (eb : lost v (1000 * u) = b) :
    Calls Ybaf.prog 11 #[.int .i64 v, .int .i64 p] w fun e w' => e = .returned (.tuple #[.int .i64 r, .bool b]) ∧ w' = w := by
  rw [← er, ← eb]; exact nanos_any v u p w hp h0 h1 hu0 hu1 hc

theorem clip_to (neg : Bool) (m : Int) (p : Nat) (o : ByteArray) (t : Int) (q : ByteArray) (w : World) (h0 : 0 ≤ m) (h1 : m ≤ 4000000000000) (hp : p ≤ 6) (et : sgn neg (clipM m) = t) (eq : clipO m o = q) :
    Calls Ybaf.prog 12 #[.bool neg, .int .i64 m, .int .i64 p, .string o] w fun e w' => e = .returned (.tuple #[.agg #[.int .i64 t, .int .u8 p], .string q]) ∧ Below w.heap.size w w' := by
  rw [← et, ← eq]; exact clip_any neg m p o w h0 h1 hp

theorem cell_new (w : World) (a b : Value) (t : TypeId) : (w.alloc (.cells #[a, b] t)).cell? ⟨w.heap.size, 0, none⟩ = some a ∧ (w.alloc (.cells #[a, b] t)).cell? ⟨w.heap.size, 1, none⟩ = some b := by
  simp [go_sem]

set_option maxHeartbeats 1000000 in
theorem dur_any (d : Int) (p : Nat) (u : Int) (w : World) (h0 : -9223372036854775808 ≤ d) (h1 : d ≤ 9223372036854775807) (hp : p ≤ 6) (hu0 : 1 ≤ u) (hu1 : u ≤ 1000000) (hc : w.cell? ⟨1, 6 - p, none⟩ = some (.int .i64 u)) :
    Calls Ybaf.prog 6 #[.int .i64 d, .int .i64 p] w fun e w' => e = .returned (.tuple #[.agg #[.int .i64 (tmOf d u), .int .u8 p], .string (ocOf d u), .nilIface]) ∧ Below w.heap.size w w' := by
  obtain ⟨ha0, ha1⟩ := abs_bd d h0 h1
  obtain ⟨hh0, hh1⟩ := held_bd d h0 h1
  have hz : 1 < w.heap.size := World.block_lt_of_cell? w _ hc
  obtain ⟨M, hM⟩ : ∃ M, mics d u = M := ⟨_, rfl⟩
  obtain ⟨B, hB⟩ : ∃ B, lost (held d) (1000 * u) = B := ⟨_, rfl⟩
  have hM0 : 0 ≤ M ∧ M ≤ 4000000000000 := by
    obtain ⟨hr0, hr1⟩ := rh_bd (held d) (1000 * u) hh0 (by omega)
    rw [← hM]; unfold mics; omega
  obtain ⟨hM0, hM1⟩ := hM0
  obtain ⟨t, ht⟩ : ∃ t, tmOf d u = t := ⟨_, rfl⟩
  obtain ⟨q, hq⟩ : ∃ q, ocOf d u = q := ⟨_, rfl⟩
  have ET : Hid (sgn (decide (d < 0)) (clipM M) = t) := by show sgn _ _ = t; rw [← ht, ← hM]; rfl
  have EQ : Hid (clipO M (word B) = q) := by show clipO _ _ = q; rw [← hq, ← hM, ← hB]; rfl
  have ER : Hid (rh (held d) (1000 * u) / 1000 = M) := hM
  have EB : Hid (lost (held d) (1000 * u) = B) := hB
  rw [ht, hq]
  clear hM hB ht hq
  by_cases hl : 3020400000000000 < absD d
  · have eh : held d = 3020400000000000 := if_pos hl
    rw [eh] at ER EB
    clear eh
    cases B
    all_goals
      first | (have EQ' : Hid (clipO M ⟨#[101, 120, 97, 99, 116]⟩ = q) := EQ) | (have EQ' : Hid (clipO M ⟨#[114, 111, 117, 110, 100, 101, 100]⟩ = q) := EQ)
      go_enter Ybaf.func6, Ybaf.ntmps6
      go_wp2_with (first | (go_at_call 9; refine (check_ok _ _ (by omega) (by omega)).mono ?_; rintro e w' ⟨rfl, rfl⟩) | (go_at_call 10; refine (abs_any _ _ h0 h1).mono ?_; rintro e w' ⟨rfl, rfl⟩) | (go_at_call 11; refine (nanos_to _ _ _ _ _ _ hp (by omega) (by omega) hu0 hu1 (cell_up hc _) ER.out EB.out).mono ?_; rintro e w' ⟨rfl, rfl⟩))
      refine (clip_to _ _ _ _ _ _ _ hM0 hM1 hp ET.out EQ'.out).mono ?_
      rintro e w1 ⟨rfl, hb⟩
      have zl : w.heap.size < w1.heap.size := by have := hb.size; rw [World.size_alloc] at this; omega
      have q0 : w1.cell? ⟨w.heap.size, 0, none⟩ = some (.int .i64 0) := (hb.cell (p := ⟨w.heap.size, 0, none⟩) (by rw [World.size_alloc]; exact Nat.lt_succ_self _)).trans (cell_new w _ _ _).1
      have q1 : w1.cell? ⟨w.heap.size, 1, none⟩ = some (.int .u8 0) := (hb.cell (p := ⟨w.heap.size, 1, none⟩) (by rw [World.size_alloc]; exact Nat.lt_succ_self _)).trans (cell_new w _ _ _).2
      have f0 : ∀ o, w1.frozen? ⟨w.heap.size, o, none⟩ = false := fun o => (hb.frozen (p := ⟨w.heap.size, o, none⟩) (by rw [World.size_alloc]; exact Nat.lt_succ_self _)).trans (by simp [go_sem])
      have B1 : Hid (Below w.heap.size w w1) := ((Below.refl _ _).alloc (Nat.le_refl _) _).trans (hb.mono (by rw [World.size_alloc]; omega))
      clear hb
      go_wp2
      exact bodyPost_ret (v := .tuple #[.agg #[.int .i64 t, .int .u8 p], .string q, .nilIface]) (by simp [results, Ybaf.results6, go_sem, q0, q1, zl]) rfl ⟨rfl, ((B1.out.setCell (Nat.le_refl _) _).setCell (Nat.le_refl _) _).alloc (by simp; omega) _⟩
  · have eh : held d = absD d := if_neg hl
    rw [eh] at ER EB
    clear eh
    cases B
    all_goals
      first | (have EQ' : Hid (clipO M ⟨#[101, 120, 97, 99, 116]⟩ = q) := EQ) | (have EQ' : Hid (clipO M ⟨#[114, 111, 117, 110, 100, 101, 100]⟩ = q) := EQ)
      go_enter Ybaf.func6, Ybaf.ntmps6
      go_wp2_with (first | (go_at_call 9; refine (check_ok _ _ (by omega) (by omega)).mono ?_; rintro e w' ⟨rfl, rfl⟩) | (go_at_call 10; refine (abs_any _ _ h0 h1).mono ?_; rintro e w' ⟨rfl, rfl⟩) | (go_at_call 11; refine (nanos_to _ _ _ _ _ _ hp (by omega) (by omega) hu0 hu1 (cell_up hc _) ER.out EB.out).mono ?_; rintro e w' ⟨rfl, rfl⟩))
      refine (clip_to _ _ _ _ _ _ _ hM0 hM1 hp ET.out EQ'.out).mono ?_
      rintro e w1 ⟨rfl, hb⟩
      have zl : w.heap.size < w1.heap.size := by have := hb.size; rw [World.size_alloc] at this; omega
      have q0 : w1.cell? ⟨w.heap.size, 0, none⟩ = some (.int .i64 0) := (hb.cell (p := ⟨w.heap.size, 0, none⟩) (by rw [World.size_alloc]; exact Nat.lt_succ_self _)).trans (cell_new w _ _ _).1
      have q1 : w1.cell? ⟨w.heap.size, 1, none⟩ = some (.int .u8 0) := (hb.cell (p := ⟨w.heap.size, 1, none⟩) (by rw [World.size_alloc]; exact Nat.lt_succ_self _)).trans (cell_new w _ _ _).2
      have f0 : ∀ o, w1.frozen? ⟨w.heap.size, o, none⟩ = false := fun o => (hb.frozen (p := ⟨w.heap.size, o, none⟩) (by rw [World.size_alloc]; exact Nat.lt_succ_self _)).trans (by simp [go_sem])
      have B1 : Hid (Below w.heap.size w w1) := ((Below.refl _ _).alloc (Nat.le_refl _) _).trans (hb.mono (by rw [World.size_alloc]; omega))
      clear hb
      go_wp2
      exact bodyPost_ret (v := .tuple #[.agg #[.int .i64 t, .int .u8 p], .string q, .nilIface]) (by simp [results, Ybaf.results6, go_sem, q0, q1, zl]) rfl ⟨rfl, ((B1.out.setCell (Nat.le_refl _) _).setCell (Nat.le_refl _) _).alloc (by simp; omega) _⟩
end Go.Proofs.YbulkavcyFmt

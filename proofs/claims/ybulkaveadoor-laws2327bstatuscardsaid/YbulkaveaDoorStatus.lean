import Derived.Test.YbulkaveaDoorStat1
namespace Go.Proofs.YbulkaveaDoor
open Go.RowKit
set_option linter.unusedVariables false
set_option linter.unusedSimpArgs false

set_option maxHeartbeats 8000000 in
theorem status_s (S Q M B N : Nat) (x0 x2 x3 : Value) (start inc lo hi cache : Int) (cy ord : Bool) (next : Int) (x : Bool) (r : Int) (c : Nat → Int) (l now : Int) (ex : Bool) (tot : Int) (w : World) (H : Held S Q M B N x0 x2 x3 start inc lo hi cache cy ord next x r c l now w)
    (hx : (x && decide (r = 0)) = ex) (i0 : inc ≠ 0) (i1 : -9223372036854775808 ≤ inc) (i2 : inc ≤ 9223372036854775807) (l0 : 0 ≤ l) (l1 : l ≤ now) (n1 : now ≤ 4294967295) (ht : Hid (tsum (clr c (max (l + 1) (now - 59)) (now + 1 - max (l + 1) (now - 59)).toNat) 60 = tot)) :
    Calls Ybad.prog 6 #[.pointer (some ⟨S, 0, none⟩), .string ⟨#[115]⟩] w fun e w' => ∃ left, e = .returned (.tuple #[.agg #[.int .i64 start, .int .i64 inc, .int .i64 lo, .int .i64 hi, .int .i64 cache, .bool cy, .bool ord, .int .i64 (if ex = true then 0 else next), .bool ex, left, .int .i64 tot], .nilIface]) ∧ K2 Q S w w' ∧
      ((cy = true ∧ left = .pointer none) ∨ (cy = false ∧ ∃ L, left = .pointer (some ⟨L, 0, none⟩) ∧ w.heap.size ≤ L ∧ BigIs w' L (if ex = true then 0 else steps inc lo hi next + 1) ∧ (∀ o, w'.frozen? ⟨L, o, none⟩ = false))) := by
  obtain ⟨n, k, hm⟩ := H.hm
  generalize hPost : (fun (e : Ending) (w' : World) => ∃ left, e = .returned (.tuple #[.agg #[.int .i64 start, .int .i64 inc, .int .i64 lo, .int .i64 hi, .int .i64 cache, .bool cy, .bool ord, .int .i64 (if ex = true then 0 else next), .bool ex, left, .int .i64 tot], .nilIface]) ∧ K2 Q S w w' ∧
      ((cy = true ∧ left = .pointer none) ∨ (cy = false ∧ ∃ L, left = .pointer (some ⟨L, 0, none⟩) ∧ w.heap.size ≤ L ∧ BigIs w' L (if ex = true then 0 else steps inc lo hi next + 1) ∧ (∀ o, w'.frozen? ⟨L, o, none⟩ = false)))) = Post
  have HP : Hid (∀ left e w', (e = .returned (.tuple #[.agg #[.int .i64 start, .int .i64 inc, .int .i64 lo, .int .i64 hi, .int .i64 cache, .bool cy, .bool ord, .int .i64 (if ex = true then 0 else next), .bool ex, left, .int .i64 tot], .nilIface]) ∧ K2 Q S w w' ∧
      ((cy = true ∧ left = .pointer none) ∨ (cy = false ∧ ∃ L, left = .pointer (some ⟨L, 0, none⟩) ∧ w.heap.size ≤ L ∧ BigIs w' L (if ex = true then 0 else steps inc lo hi next + 1) ∧ (∀ o, w'.frozen? ⟨L, o, none⟩ = false)))) → Post e w') := by
    intro left e w' h
    rw [← hPost]
    exact ⟨left, h⟩
  clear hPost
  go_enter_defers Ybad.func6, Ybad.ntmps6
  have zS : S < w.heap.size := World.block_lt_of_cell? w _ H.s0
  have zQ : Q < w.heap.size := World.block_lt_of_cell? w _ H.q0
  have HM : Hid (w.heap[M]? = some (.map #[⟨.string ⟨#[115]⟩, .pointer (some ⟨Q, 0, none⟩), n⟩] k)) := hm
  clear hm
  go_wp2_with fail
  have hb : Below w.heap.size w (w.alloc (.cells #[.int .i64 0, .int .i64 0, .int .i64 0, .int .i64 0, .int .i64 0, .bool false, .bool false, .int .i64 0, .bool false, .pointer none, .int .i64 0] 63)) := Below.alloc (Below.refl _ _) (Nat.le_refl _) _
  have zM : M < w.heap.size := by
    have h := HM.out
    rw [Array.getElem?_eq_some_iff] at h
    exact h.1
  refine (acquire_s S M Q x0 x3 n k _ (((bcell hb).1 S 0 zS).trans H.s0) (((bcell hb).1 S 3 zS).trans H.s3) (((bcell hb).1 S 4 zS).trans H.s4) (((bcell hb).2 S 4 zS).trans H.fs) (((bcell hb).1 S 6 zS).trans H.s6) (((bcell hb).1 S 9 zS).trans H.s9)
    ((hb.block M zM).trans HM.out) (((bcell hb).1 Q 0 zQ).trans H.q0) (((bcell hb).2 Q 0 zQ).trans (H.fq 0)) H.sq).mono ?_
  rintro e w1 ⟨rfl, hw1⟩
  clear hb
  go_wp2
  generalize hW : ((w.setCell ⟨S, 4, none⟩ (.int .i32 1)).setCell ⟨Q, 0, none⟩ (.int .i32 1)).alloc (.cells #[.int .i64 0, .int .i64 0, .int .i64 0, .int .i64 0, .int .i64 0, .bool false, .bool false, .int .i64 0, .bool false, .pointer none, .int .i64 0] 63) = W
  have zW : W.heap.size = w.heap.size + 1 := by rw [← hW]; simp
  have cW : ∀ b o, b < w.heap.size → (b ≠ S ∨ o ≠ 4) → (b ≠ Q ∨ o ≠ 0) → W.cell? ⟨b, o, none⟩ = w.cell? ⟨b, o, none⟩ := by
    intro b o hb h1 h2
    rw [← hW, World.cell?_alloc_lt _ _ _ (by simpa using hb), World.cell?_setCell_other _ _ _ _ (by intro he; injection he with e1 e2 _; omega), World.cell?_setCell_other _ _ _ _ (by intro he; injection he with e1 e2 _; omega)]
  have fW : ∀ b o, b < w.heap.size → W.frozen? ⟨b, o, none⟩ = w.frozen? ⟨b, o, none⟩ := by
    intro b o hb
    rw [← hW, (Below.alloc (Below.refl _ _) (Nat.le_refl _) _).frozen (p := ⟨b, o, none⟩) (by simpa using hb), World.frozen?_setCell, World.frozen?_setCell]
  have zB : B < w.heap.size := World.block_lt_of_cell? w _ H.b0
  have zN : N < w.heap.size := World.block_lt_of_cell? w _ H.n0
  have HC : Clock S B N now W := ⟨(cW S _ zS (by omega) (.inl H.sq)).trans H.s14, (cW S _ zS (by omega) (.inl H.sq)).trans H.s15, (cW S _ zS (by omega) (.inl H.sq)).trans H.s16, (cW S _ zS (by omega) (.inl H.sq)).trans H.s17,
    (cW B _ zB (.inl (Ne.symm H.sb)) (.inl (Ne.symm H.qb))).trans H.b0, (cW B _ zB (.inl (Ne.symm H.sb)) (.inl (Ne.symm H.qb))).trans H.b1, (cW B _ zB (.inl (Ne.symm H.sb)) (.inl (Ne.symm H.qb))).trans H.b2, (cW N _ zN (.inl (Ne.symm H.sn)) (.inl (Ne.symm H.qn))).trans H.n0⟩
  have hcW : Hid (∀ i, i < 60 → W.cell? ⟨Q, 15 + i, none⟩ = some (.int .i64 (c i))) := fun i hi => (cW Q _ zQ (.inl (Ne.symm H.sq)) (.inr (by omega))).trans (H.qc i hi)
  have hfW : Hid (∀ o, W.frozen? ⟨Q, o, none⟩ = false) := fun o => (fW Q o zQ).trans (H.fq o)
  have hlW : W.cell? ⟨Q, 75, none⟩ = some (.int .i64 l) := (cW Q _ zQ (.inl (Ne.symm H.sq)) (.inr (by omega))).trans H.q75
  have h10 : W.cell? ⟨Q, 10, none⟩ = some (.bool x) := (cW Q _ zQ (.inl (Ne.symm H.sq)) (.inr (by omega))).trans H.q10
  have h14 : W.cell? ⟨Q, 14, none⟩ = some (.int .i64 r) := (cW Q _ zQ (.inl (Ne.symm H.sq)) (.inr (by omega))).trans H.q14
  have CW := Hid.out (p := ∀ b o, b < w.heap.size → (b ≠ S ∨ o ≠ 4) → (b ≠ Q ∨ o ≠ 0) → W.cell? ⟨b, o, none⟩ = w.cell? ⟨b, o, none⟩) cW
  have n0 : 0 ≤ now := by omega
  have zQ2 : Q < W.heap.size := by omega
  have nQ : W.heap.size ≠ Q := by omega
  have keepS : Hid (∀ w' : World, Alm Q W w' → (Alm Q W w' ∧ w'.cell? ⟨Q, 2, none⟩ = some (.int .i64 start) ∧ w'.cell? ⟨Q, 3, none⟩ = some (.int .i64 inc) ∧ w'.cell? ⟨Q, 4, none⟩ = some (.int .i64 lo) ∧ w'.cell? ⟨Q, 5, none⟩ = some (.int .i64 hi) ∧
      w'.cell? ⟨Q, 6, none⟩ = some (.int .i64 cache) ∧ w'.cell? ⟨Q, 7, none⟩ = some (.bool cy) ∧ w'.cell? ⟨Q, 8, none⟩ = some (.bool ord))) := by
    intro w' hA
    have g : ∀ o, 1 ≤ o → o < 15 → w'.cell? ⟨Q, o, none⟩ = w.cell? ⟨Q, o, none⟩ := fun o h1 h2 => (hA.2.2.1 Q o zQ2 (by omega)).trans (cW Q o zQ (.inl (Ne.symm H.sq)) (.inr (by omega)))
    exact ⟨hA, (g 2 (by omega) (by omega)).trans H.q2, (g 3 (by omega) (by omega)).trans H.q3, (g 4 (by omega) (by omega)).trans H.q4, (g 5 (by omega) (by omega)).trans H.q5, (g 6 (by omega) (by omega)).trans H.q6, (g 7 (by omega) (by omega)).trans H.q7, (g 8 (by omega) (by omega)).trans H.q8⟩
  have HCW : Hid (∀ b o, b < w.heap.size → (b ≠ S ∨ o ≠ 4) → (b ≠ Q ∨ o ≠ 0) → W.cell? ⟨b, o, none⟩ = w.cell? ⟨b, o, none⟩) := cW
  have HFW : Hid (∀ b o, b < w.heap.size → W.frozen? ⟨b, o, none⟩ = w.frozen? ⟨b, o, none⟩) := fW
  have ZW : Hid (W.heap.size = w.heap.size + 1) := zW
  clear cW fW CW zW
  have HW := hW
  clear hW
  go_cut [8] from 21 (fun t8 wc => ∃ T, t8 = .pointer (some ⟨T, 0, none⟩) ∧ W.heap.size ≤ T ∧ Alm Q W wc ∧ (wc.cell? ⟨T, 0, none⟩ = some (.int .i64 start) ∧ wc.cell? ⟨T, 1, none⟩ = some (.int .i64 inc) ∧ wc.cell? ⟨T, 2, none⟩ = some (.int .i64 lo) ∧ wc.cell? ⟨T, 3, none⟩ = some (.int .i64 hi) ∧ wc.cell? ⟨T, 4, none⟩ = some (.int .i64 cache) ∧ wc.cell? ⟨T, 5, none⟩ = some (.bool cy) ∧ wc.cell? ⟨T, 6, none⟩ = some (.bool ord) ∧ wc.cell? ⟨T, 7, none⟩ = some (.int .i64 0) ∧ wc.cell? ⟨T, 8, none⟩ = some (.bool ex) ∧ wc.cell? ⟨T, 9, none⟩ = some (.pointer none) ∧ wc.cell? ⟨T, 10, none⟩ = some (.int .i64 tot)) ∧ wc.frozen? ⟨T, 7, none⟩ = false ∧ wc.frozen? ⟨T, 9, none⟩ = false)
  case first =>
    go_region_held3 (fun w' => Alm Q W w' ∧ w'.cell? ⟨Q, 2, none⟩ = some (.int .i64 start) ∧ w'.cell? ⟨Q, 3, none⟩ = some (.int .i64 inc) ∧ w'.cell? ⟨Q, 4, none⟩ = some (.int .i64 lo) ∧ w'.cell? ⟨Q, 5, none⟩ = some (.int .i64 hi) ∧
      w'.cell? ⟨Q, 6, none⟩ = some (.int .i64 cache) ∧ w'.cell? ⟨Q, 7, none⟩ = some (.bool cy) ∧ w'.cell? ⟨Q, 8, none⟩ = some (.bool ord)) ((refine keepS.out _ ?_; repeat (first | refine Alm.put ?_ _ _ _ (by omega) zQ2 | refine Alm.drew ?_ | refine Alm.alloc ?_ _ zQ2 | assumption | exact Alm.of_below (Below.refl _ _) zQ2 | (refine And.left ?_; assumption))))
      (first | (go_at_call 17; refine (spent_from Q x r ex W _ (by repeat (first | refine Alm.drew ?_ | refine Alm.alloc ?_ _ zQ2 | exact Alm.of_below (Below.refl _ _) zQ2 | assumption)) h10 h14 hx).mono ?_; rintro e w' ⟨rfl, rfl⟩) | (go_at_call 19; refine (seconds_from S B N now W _ (by repeat (first | refine Below.drew ?_ | refine Below.alloc ?_ (by simp) _ | exact Below.refl _ _)) HC n0 n1).mono ?_; rintro e w3 ⟨rfl, hb3⟩; have hB3 : Below W.heap.size W w3 := Below.trans (by repeat (first | refine Below.drew ?_ | refine Below.alloc ?_ (by simp) _ | exact Below.refl _ _)) (hb3.mono (by simp)); have hA3 := Alm.of_below hB3 zQ2; have hz3 := hB3.size; have hn3 : Hid (w3.heap.size ≠ Q) := (by show w3.heap.size ≠ Q; omega); have c3 : ∀ o, W.heap.size < _ → w3.cell? ⟨W.heap.size, o, none⟩ = _ := fun o h => (bcell hb3).1 _ o h; have f3 : ∀ o, W.heap.size < _ → w3.frozen? ⟨W.heap.size, o, none⟩ = _ := fun o h => (bcell hb3).2 _ o h; clear hb3) | (go_at_call 18; refine (total_from Q c l now tot W _ (by repeat (first | refine Below.alloc ?_ (by omega) _ | assumption)) hcW hfW hlW l0 l1 n1 ht).mono ?_; rintro e w4 ⟨rfl, hp⟩; have hA4 : Alm Q W w4 := Alm.past (by repeat (first | refine Alm.alloc ?_ _ zQ2 | assumption)) hp; have c4 : ∀ o, w4.cell? ⟨W.heap.size, o, none⟩ = _ := fun o => hp.2.2.1 _ o (.inl nQ); have c5 : ∀ o, w4.cell? ⟨w3.heap.size, o, none⟩ = _ := fun o => hp.2.2.1 _ o (.inl hn3.out); have f4 : ∀ b o, w4.frozen? ⟨b, o, none⟩ = _ := fun b o => hp.2.2.2 b o; have hz4 := hp.2.1; clear hp))
    all_goals (go_wp2_with fail; go_meet)
    all_goals (
      refine ⟨_, rfl, by omega, ?_, ⟨?_, ?_, ?_, ?_, ?_, ?_, ?_, ?_, ?_, ?_, ?_⟩, ?_, ?_⟩
      · repeat (first | refine Alm.put ?_ _ _ _ (by omega) zQ2 | refine Alm.alloc ?_ _ zQ2 | assumption)
      all_goals (first | (simp [go_sem, c4, c5, f4, c3, f3]; done) | (rw [← hz4]; simp [go_sem]; done)))
  case rest =>
    obtain ⟨T, rfl, hTW, hA, ⟨t0, t1, t2, t3, t4, t5, t6, t7, t8, t9, t10⟩, f7, f9⟩ := hcut
    have zT : T < wc.heap.size := World.block_lt_of_cell? wc _ t0
    have zc := hA.2.1
    have q2 : wc.cell? ⟨Q, 2, none⟩ = some (.int .i64 start) := (keepS.out _ hA).2.1
    have q3 : wc.cell? ⟨Q, 3, none⟩ = some (.int .i64 inc) := (keepS.out _ hA).2.2.1
    have q4 : wc.cell? ⟨Q, 4, none⟩ = some (.int .i64 lo) := (keepS.out _ hA).2.2.2.1
    have q5 : wc.cell? ⟨Q, 5, none⟩ = some (.int .i64 hi) := (keepS.out _ hA).2.2.2.2.1
    have q6 : wc.cell? ⟨Q, 6, none⟩ = some (.int .i64 cache) := (keepS.out _ hA).2.2.2.2.2.1
    have q7 : wc.cell? ⟨Q, 7, none⟩ = some (.bool cy) := (keepS.out _ hA).2.2.2.2.2.2.1
    have q8 : wc.cell? ⟨Q, 8, none⟩ = some (.bool ord) := (keepS.out _ hA).2.2.2.2.2.2.2
    have q9 : wc.cell? ⟨Q, 9, none⟩ = some (.int .i64 next) := (hA.2.2.1 Q 9 zQ2 (by omega)).trans ((HCW.out Q 9 zQ (.inl (Ne.symm H.sq)) (.inr (by omega))).trans H.q9)
    have zW := ZW.out
    have r0 : wc.cell? ⟨w.heap.size, 0, none⟩ = some (.int .i64 0) := (hA.2.2.1 w.heap.size 0 (by omega) (.inl (by omega))).trans (by rw [← HW]; simp [go_sem])
    have r1 : wc.cell? ⟨w.heap.size, 1, none⟩ = some (.int .i64 0) := (hA.2.2.1 w.heap.size 1 (by omega) (.inl (by omega))).trans (by rw [← HW]; simp [go_sem])
    have r2 : wc.cell? ⟨w.heap.size, 2, none⟩ = some (.int .i64 0) := (hA.2.2.1 w.heap.size 2 (by omega) (.inl (by omega))).trans (by rw [← HW]; simp [go_sem])
    have r3 : wc.cell? ⟨w.heap.size, 3, none⟩ = some (.int .i64 0) := (hA.2.2.1 w.heap.size 3 (by omega) (.inl (by omega))).trans (by rw [← HW]; simp [go_sem])
    have r4 : wc.cell? ⟨w.heap.size, 4, none⟩ = some (.int .i64 0) := (hA.2.2.1 w.heap.size 4 (by omega) (.inl (by omega))).trans (by rw [← HW]; simp [go_sem])
    have r5 : wc.cell? ⟨w.heap.size, 5, none⟩ = some (.bool false) := (hA.2.2.1 w.heap.size 5 (by omega) (.inl (by omega))).trans (by rw [← HW]; simp [go_sem])
    have r6 : wc.cell? ⟨w.heap.size, 6, none⟩ = some (.bool false) := (hA.2.2.1 w.heap.size 6 (by omega) (.inl (by omega))).trans (by rw [← HW]; simp [go_sem])
    have r7 : wc.cell? ⟨w.heap.size, 7, none⟩ = some (.int .i64 0) := (hA.2.2.1 w.heap.size 7 (by omega) (.inl (by omega))).trans (by rw [← HW]; simp [go_sem])
    have r8 : wc.cell? ⟨w.heap.size, 8, none⟩ = some (.bool false) := (hA.2.2.1 w.heap.size 8 (by omega) (.inl (by omega))).trans (by rw [← HW]; simp [go_sem])
    have r9 : wc.cell? ⟨w.heap.size, 9, none⟩ = some (.pointer none) := (hA.2.2.1 w.heap.size 9 (by omega) (.inl (by omega))).trans (by rw [← HW]; simp [go_sem])
    have r10 : wc.cell? ⟨w.heap.size, 10, none⟩ = some (.int .i64 0) := (hA.2.2.1 w.heap.size 10 (by omega) (.inl (by omega))).trans (by rw [← HW]; simp [go_sem])
    have fr : ∀ o, wc.frozen? ⟨w.heap.size, o, none⟩ = false := fun o => (hA.2.2.2 w.heap.size o (by omega)).trans (by rw [← HW]; simp [go_sem])
    have nRT : T ≠ w.heap.size := by omega
    have HK : Hid (K2 Q S w wc) := by
      refine K2.alm (X := W) ?_ hA
      rw [← HW]
      exact (((K2.refl Q S w).put _ _ _ (.inr (.inl rfl))).put _ _ _ (.inl rfl)).alloc _ zQ
    have s0 : wc.cell? ⟨S, 0, none⟩ = some x0 := (hA.2.2.1 S 0 (by omega) (by omega)).trans ((HCW.out S 0 zS (by omega) (.inl H.sq)).trans H.s0)
    have s2 : wc.cell? ⟨S, 2, none⟩ = some x2 := (hA.2.2.1 S 2 (by omega) (by omega)).trans ((HCW.out S 2 zS (by omega) (.inl H.sq)).trans H.s2)
    have s4 : wc.cell? ⟨S, 4, none⟩ = some (.int .i32 1) := (hA.2.2.1 S 4 (by omega) (by omega)).trans (by rw [← HW, World.cell?_alloc_lt _ _ _ (by simpa using zS), World.cell?_setCell_far _ _ _ _ (Ne.symm H.sq), World.cell?_setCell_same _ _ _ H.s4])
    have q0 : wc.cell? ⟨Q, 0, none⟩ = some (.int .i32 1) := (hA.2.2.1 Q 0 (by omega) (by omega)).trans (by rw [← HW, World.cell?_alloc_lt _ _ _ (by simpa using zQ), World.cell?_setCell_same _ _ _ ((World.cell?_setCell_far _ _ _ _ H.sq).trans H.q0)])
    have fs4 : wc.frozen? ⟨S, 4, none⟩ = false := (hA.2.2.2 S 4 (by omega)).trans ((HFW.out S 4 zS).trans H.fs)
    have fq0 : wc.frozen? ⟨Q, 0, none⟩ = false := (hA.2.2.2 Q 0 (by omega)).trans ((HFW.out Q 0 zQ).trans (H.fq 0))
    have nRS : w.heap.size ≠ S := by omega
    have nRQ : w.heap.size ≠ Q := by omega
    have nTS : T ≠ S := by omega
    have hSQ := H.sq
    have hTw : w.heap.size < T := by omega
    have zR : w.heap.size < wc.heap.size := by omega
    have HA : Hid (Alm Q W wc) := hA
    have nTQ : T ≠ Q := by omega
    clear hA zW
    cases cy <;> cases ex
    case true.true =>
      go_wp2_with (fail)
      refine door_s S Q w.heap.size x0 x2 [.int .i64 start, .int .i64 inc, .int .i64 lo, .int .i64 hi, .int .i64 cache, .bool true, .bool ord, .int .i64 0, .bool true, .pointer none, .int .i64 tot] _ _ _ rfl rfl (range11 _ _ _ _ _ _ _ _ _ _ _ _ _ (by simp [go_sem, r0]) (by simp [go_sem, r1]) (by simp [go_sem, r2]) (by simp [go_sem, r3]) (by simp [go_sem, r4]) (by simp [go_sem, r5]) (by simp [go_sem, r6]) (by simp [go_sem, r7]) (by simp [go_sem, r8]) (by simp [go_sem, r9]) (by simp [go_sem, r10])) rfl
        (by simp [World.cell?_setCell_far, nRS, s0]) (by simp [World.cell?_setCell_far, nRS, s2]) (by simp [World.cell?_setCell_far, nRS, s4]) (by simp [fs4]) (by simp [World.cell?_setCell_far, nRQ, q0]) (by simp [fq0]) hSQ nRS nRQ ?_
      refine HP.out (.pointer none) _ _ ⟨rfl, ?_, .inl ⟨by trivial, by trivial⟩⟩
      iterate 13 refine K2.put ?_ _ _ _ (by omega)
      exact HK.out
    case true.false =>
      go_wp2_with (fail)
      refine door_s S Q w.heap.size x0 x2 [.int .i64 start, .int .i64 inc, .int .i64 lo, .int .i64 hi, .int .i64 cache, .bool true, .bool ord, .int .i64 next, .bool false, .pointer none, .int .i64 tot] _ _ _ rfl rfl (range11 _ _ _ _ _ _ _ _ _ _ _ _ _ (by simp [go_sem, r0]) (by simp [go_sem, r1]) (by simp [go_sem, r2]) (by simp [go_sem, r3]) (by simp [go_sem, r4]) (by simp [go_sem, r5]) (by simp [go_sem, r6]) (by simp [go_sem, r7]) (by simp [go_sem, r8]) (by simp [go_sem, r9]) (by simp [go_sem, r10])) rfl
        (by simp [World.cell?_setCell_far, nRS, nTS, s0]) (by simp [World.cell?_setCell_far, nRS, nTS, s2]) (by simp [World.cell?_setCell_far, nRS, nTS, s4]) (by simp [fs4]) (by simp [World.cell?_setCell_far, nRQ, nTQ, q0]) (by simp [fq0]) hSQ nRS nRQ ?_
      refine HP.out (.pointer none) _ _ ⟨rfl, ?_, .inl ⟨by trivial, by trivial⟩⟩
      iterate 14 refine K2.put ?_ _ _ _ (by omega)
      exact HK.out
    case false.true =>
      go_wp2_with (fail)
      refine door_s S Q w.heap.size x0 x2 [.int .i64 start, .int .i64 inc, .int .i64 lo, .int .i64 hi, .int .i64 cache, .bool false, .bool ord, .int .i64 0, .bool true, .pointer (some ⟨wc.heap.size, 0, none⟩), .int .i64 tot] _ _ _ rfl rfl (range11 _ _ _ _ _ _ _ _ _ _ _ _ _ (by simp [go_sem, zR, r0]) (by simp [go_sem, zR, r1]) (by simp [go_sem, zR, r2]) (by simp [go_sem, zR, r3]) (by simp [go_sem, zR, r4]) (by simp [go_sem, zR, r5]) (by simp [go_sem, zR, r6]) (by simp [go_sem, zR, r7]) (by simp [go_sem, zR, r8]) (by simp [go_sem, zR, r9]) (by simp [go_sem, zR, r10])) rfl
        (by simp [World.cell?_alloc_some, World.cell?_setCell_far, nRS, nTS, s0]) (by simp [World.cell?_alloc_some, World.cell?_setCell_far, nRS, nTS, s2]) (by simp [World.cell?_alloc_some, World.cell?_setCell_far, nRS, nTS, s4]) (by rw [Below.frozen (Below.alloc (Below.refl _ _) (Nat.le_refl _) _) (p := ⟨S, 4, none⟩) (by simp; omega)]; simp [fs4]) (by simp [World.cell?_alloc_some, World.cell?_setCell_far, nRQ, nTQ, q0]) (by rw [Below.frozen (Below.alloc (Below.refl _ _) (Nat.le_refl _) _) (p := ⟨Q, 0, none⟩) (by simp; omega)]; simp [fq0]) hSQ nRS nRQ ?_
      refine HP.out (.pointer (some ⟨wc.heap.size, 0, none⟩)) _ _ ⟨rfl, ?_, .inr ⟨by trivial, wc.heap.size, rfl, by omega, ?_, ?_⟩⟩
      · refine K2.put (K2.put (K2.alloc ?_ _ zQ) _ _ _ (.inl rfl)) _ _ _ (.inr (.inl rfl))
        iterate 11 refine K2.put ?_ _ _ _ (by omega)
        exact HK.out.put _ _ _ (by omega)
      · have n1 : Q ≠ wc.heap.size := by omega
        have n2 : S ≠ wc.heap.size := by omega
        exact ⟨by rw [World.cell?_setCell_far _ _ _ _ n2, World.cell?_setCell_far _ _ _ _ n1]; simp [go_sem], .slice none 0 0, by rw [World.cell?_setCell_far _ _ _ _ n2, World.cell?_setCell_far _ _ _ _ n1]; simp [go_sem], .inl ⟨rfl, rfl⟩⟩
      · intro o
        simp [go_sem]
    case false.false =>
      go_wp2_with (fail)
      generalize h6 : ((wc.setCell ⟨T, 7, none⟩ (.int .i64 next)).setCell ⟨T, 9, none⟩ (.pointer (some ⟨wc.heap.size, 0, none⟩))).alloc (.cells #[.bool false, .slice none 0 0] 72) = w6
      have z6 : w6.heap.size = wc.heap.size + 1 := by rw [← h6]; simp
      have F6 : Fr T wc w6 := by
        rw [← h6]
        exact (((Fr.refl T wc).put _ _ _ (.inl rfl) zT).put _ _ _ (.inl rfl) zT).alloc _ zT
      have kT : ∀ o, o ≠ 7 → o ≠ 9 → w6.cell? ⟨T, o, none⟩ = wc.cell? ⟨T, o, none⟩ := fun o h7 h9 => by
        rw [← h6, World.cell?_alloc_lt _ _ _ (by simpa using zT), World.cell?_setCell_other _ _ _ _ (by intro he; injection he with _ e2 _; omega), World.cell?_setCell_other _ _ _ _ (by intro he; injection he with _ e2 _; omega)]
      have k7 : w6.cell? ⟨T, 7, none⟩ = some (.int .i64 next) := by
        rw [← h6, World.cell?_alloc_lt _ _ _ (by simpa using zT), World.cell?_setCell_other _ _ _ _ (by intro he; injection he with _ e2 _; omega), World.cell?_setCell_same _ _ _ t7]
      have k9 : w6.cell? ⟨T, 9, none⟩ = some (.pointer (some ⟨wc.heap.size, 0, none⟩)) := by
        rw [← h6, World.cell?_alloc_lt _ _ _ (by simpa using zT), World.cell?_setCell_same _ _ _ ((World.cell?_setCell_other _ _ _ _ (by intro he; injection he with _ e2 _; omega)).trans t9)]
      have kb : ∀ b o, b < wc.heap.size → b ≠ T → w6.cell? ⟨b, o, none⟩ = wc.cell? ⟨b, o, none⟩ := F6.2.2.1
      have zQc : Q < wc.heap.size := by omega
      have zSc : S < wc.heap.size := by omega
      have HS6 : Sta S Q w.heap.size T x0 x2 (.int .i64 start) (.int .i64 inc) (.int .i64 lo) (.int .i64 hi) (.int .i64 cache) (.bool false) (.bool ord) (.int .i64 next) (.int .i64 next) (.bool false) (.pointer (some ⟨wc.heap.size, 0, none⟩)) (.int .i64 tot) w6 :=
        ⟨(kb Q _ zQc (Ne.symm nTQ)).trans q2, (kb Q _ zQc (Ne.symm nTQ)).trans q3, (kb Q _ zQc (Ne.symm nTQ)).trans q4, (kb Q _ zQc (Ne.symm nTQ)).trans q5, (kb Q _ zQc (Ne.symm nTQ)).trans q6, (kb Q _ zQc (Ne.symm nTQ)).trans q7, (kb Q _ zQc (Ne.symm nTQ)).trans q8, (kb Q _ zQc (Ne.symm nTQ)).trans q9, (kb Q _ zQc (Ne.symm nTQ)).trans q0,
        (kT 0 (by omega) (by omega)).trans t0, (kT 1 (by omega) (by omega)).trans t1, (kT 2 (by omega) (by omega)).trans t2, (kT 3 (by omega) (by omega)).trans t3, (kT 4 (by omega) (by omega)).trans t4, (kT 5 (by omega) (by omega)).trans t5, (kT 6 (by omega) (by omega)).trans t6, k7, (kT 8 (by omega) (by omega)).trans t8, k9, (kT 10 (by omega) (by omega)).trans t10,
        (kb w.heap.size _ zR (Ne.symm nRT)).trans r0, (kb w.heap.size _ zR (Ne.symm nRT)).trans r1, (kb w.heap.size _ zR (Ne.symm nRT)).trans r2, (kb w.heap.size _ zR (Ne.symm nRT)).trans r3, (kb w.heap.size _ zR (Ne.symm nRT)).trans r4, (kb w.heap.size _ zR (Ne.symm nRT)).trans r5, (kb w.heap.size _ zR (Ne.symm nRT)).trans r6, (kb w.heap.size _ zR (Ne.symm nRT)).trans r7, (kb w.heap.size _ zR (Ne.symm nRT)).trans r8, (kb w.heap.size _ zR (Ne.symm nRT)).trans r9, (kb w.heap.size _ zR (Ne.symm nRT)).trans r10,
        (kb S _ zSc (Ne.symm nTS)).trans s0, (kb S _ zSc (Ne.symm nTS)).trans s2, (kb S _ zSc (Ne.symm nTS)).trans s4, (F6.2.2.2 S 4 zSc).trans fs4, (F6.2.2.2 Q 0 zQc).trans fq0, fun o => (F6.2.2.2 w.heap.size o zR).trans (fr o)⟩
      have l0' : w6.cell? ⟨wc.heap.size, 0, none⟩ = some (.bool false) := by rw [← h6]; simp [go_sem]
      have l1' : w6.cell? ⟨wc.heap.size, 1, none⟩ = some (.slice none 0 0) := by rw [← h6]; simp [go_sem]
      have fl' : Hid (∀ o, w6.frozen? ⟨wc.heap.size, o, none⟩ = false) := fun o => by rw [← h6]; simp [go_sem]
      have HK6 : Hid (K2 Q S w w6) := HK.out.fr F6 (by omega) zQ
      have zL : wc.heap.size < w6.heap.size := by omega
      have nLT : T ≠ wc.heap.size := by omega
      have nLQ : Q ≠ wc.heap.size := by omega
      have nLS : S ≠ wc.heap.size := by omega
      have nLR : w.heap.size ≠ wc.heap.size := by omega
      obtain ⟨g0, g1⟩ := steps_range inc lo hi next
      clear kT k7 k9 kb F6 q2 q3 q4 q5 q6 q7 q8 q9 q0 t0 t1 t2 t3 t4 t5 t6 t7 t8 t9 t10 r0 r1 r2 r3 r4 r5 r6 r7 r8 r9 r10 s0 s2 s4 fs4 fq0 fr f7 f9 z6 h6 HK HA zT hTW zc
      generalize wc.heap.size = L at *
      have HST : Hid (∀ w', Fr L w6 w' → Sta S Q w.heap.size T x0 x2 (.int .i64 start) (.int .i64 inc) (.int .i64 lo) (.int .i64 hi) (.int .i64 cache) (.bool false) (.bool ord) (.int .i64 next) (.int .i64 next) (.bool false) (.pointer (some ⟨L, 0, none⟩)) (.int .i64 tot) w') := fun w' hF => HS6.fr_keep hF nLS nLQ nLR nLT
      clear HS6
      have keep6 : Hid (∀ w', Fr L w6 w' → (Fr L w6 w' ∧ w'.cell? ⟨T, 9, none⟩ = some (.pointer (some ⟨L, 0, none⟩)) ∧ w'.cell? ⟨Q, 2, none⟩ = some (.int .i64 start) ∧ w'.cell? ⟨Q, 3, none⟩ = some (.int .i64 inc) ∧ w'.cell? ⟨Q, 4, none⟩ = some (.int .i64 lo) ∧ w'.cell? ⟨Q, 5, none⟩ = some (.int .i64 hi) ∧
          w'.cell? ⟨Q, 6, none⟩ = some (.int .i64 cache) ∧ w'.cell? ⟨Q, 7, none⟩ = some (.bool false) ∧ w'.cell? ⟨Q, 8, none⟩ = some (.bool ord) ∧ w'.cell? ⟨Q, 9, none⟩ = some (.int .i64 next))) := fun w' hF =>
        have h := HST.out w' hF
        ⟨hF, h.t9, h.q2, h.q3, h.q4, h.q5, h.q6, h.q7, h.q8, h.q9⟩
      generalize hq : steps inc lo hi next = q at *
      have HQ : Hid (steps inc lo hi next = q) := hq
      clear hq
      go_region_held3 (fun w' => Fr L w6 w' ∧ w'.cell? ⟨T, 9, none⟩ = some (.pointer (some ⟨L, 0, none⟩)) ∧ w'.cell? ⟨Q, 2, none⟩ = some (.int .i64 start) ∧ w'.cell? ⟨Q, 3, none⟩ = some (.int .i64 inc) ∧ w'.cell? ⟨Q, 4, none⟩ = some (.int .i64 lo) ∧ w'.cell? ⟨Q, 5, none⟩ = some (.int .i64 hi) ∧
          w'.cell? ⟨Q, 6, none⟩ = some (.int .i64 cache) ∧ w'.cell? ⟨Q, 7, none⟩ = some (.bool false) ∧ w'.cell? ⟨Q, 8, none⟩ = some (.bool ord) ∧ w'.cell? ⟨Q, 9, none⟩ = some (.int .i64 next)) ((refine keep6.out _ ?_; first | exact hF7 | exact (Fr.refl L w6).drew | exact ((Fr.refl L w6).alloc _ zL).drew | exact ((Fr.refl L w6).drew).alloc _ zL))
        (first | (go_at_call 20; refine (steps_to start inc lo hi cache false ord next q _ i0 i1 i2 HQ).mono ?_; rintro e w' ⟨rfl, rfl⟩) | (go_at_call 7; refine (setuint_from L q w6 _ (by first | exact Below.drew (Below.alloc (Below.refl _ _) (Nat.le_refl _) _) | exact Below.alloc (Below.drew (Below.refl _ _)) (Nat.le_refl _) _) l0' l1' fl'.out g0 g1).mono ?_; rintro e w7 ⟨rfl, hF7, m0, s7, m1, HW7⟩))
      go_wp2_with (fail)
      have H7 := HST.out w7 hF7
      have z7 := hF7.2.1
      have HF7 : Hid (Fr L w6 w7) := hF7
      clear hF7
      have fl7 : Hid (∀ o, w7.frozen? ⟨L, o, none⟩ = false) := fun o => (HF7.out.2.2.2 L o zL).trans (fl'.out o)
      have zL7 : L < w7.heap.size := by omega
      have HST7 : Hid (∀ w', Fr L w7 w' → Sta S Q w.heap.size T x0 x2 (.int .i64 start) (.int .i64 inc) (.int .i64 lo) (.int .i64 hi) (.int .i64 cache) (.bool false) (.bool ord) (.int .i64 next) (.int .i64 next) (.bool false) (.pointer (some ⟨L, 0, none⟩)) (.int .i64 tot) w') := fun w' hF => H7.fr_keep hF nLS nLQ nLR nLT
      clear H7 l0' l1'
      have keep7 : Hid (∀ w', Fr L w7 w' → (Fr L w7 w' ∧ w'.cell? ⟨T, 9, none⟩ = some (.pointer (some ⟨L, 0, none⟩)))) := fun w' hF => ⟨hF, (HST7.out w' hF).t9⟩
      go_region_held3 (fun w' => Fr L w7 w' ∧ w'.cell? ⟨T, 9, none⟩ = some (.pointer (some ⟨L, 0, none⟩))) ((refine keep7.out _ ?_; first | exact hF8 | exact (Fr.refl L w7).drew | exact (((Fr.refl L w7).alloc _ zL7).alloc _ zL7).drew | exact (((Fr.refl L w7).drew).alloc _ zL7).alloc _ zL7))
        (first | (go_at_call 9; refine (newint_one _).mono ?_; rintro e w' ⟨rfl, rfl⟩) | (go_at_call 8; refine (bigadd_from L (w7.heap.size + 1) w7.heap.size s7 q w7 _ (by first | exact Below.drew (Below.alloc (Below.alloc (Below.refl _ _) (Nat.le_refl _) _) (by simp) _) | exact Below.alloc (Below.alloc (Below.drew (Below.refl _ _)) (Nat.le_refl _) _) (by simp) _) m0 m1 fl7.out HW7 (by simp [go_sem]) (by simp [go_sem]) (by simp [go_sem])).mono ?_; rintro e w8 ⟨rfl, hF8, m80, s8, m81, HN8, HB8⟩))
      have H8 := HST7.out w8 hF8
      have z8 := hF8.2.1
      have fl8 : Hid (∀ o, w8.frozen? ⟨L, o, none⟩ = false) := fun o => (hF8.2.2.2 L o zL7).trans (fl7.out o)
      have HK8 : Hid (K2 Q S w w8) := (HK6.out.fr HF7.out (by omega) zQ).fr hF8 (by omega) zQ
      clear hF8
      obtain ⟨q2, q3, q4, q5, q6, q7, q8, q9, q0, t0, t1, t2, t3, t4, t5, t6, t7, t8, t9, t10, r0, r1, r2, r3, r4, r5, r6, r7, r8, r9, r10, s0, s2, s4, fs4, fq0, fr⟩ := H8
      go_wp2_with (fail)
      refine door_s S Q w.heap.size x0 x2 [.int .i64 start, .int .i64 inc, .int .i64 lo, .int .i64 hi, .int .i64 cache, .bool false, .bool ord, .int .i64 next, .bool false, .pointer (some ⟨L, 0, none⟩), .int .i64 tot] _ _ _ rfl rfl (range11 _ _ _ _ _ _ _ _ _ _ _ _ _ (by simp [go_sem, r0]) (by simp [go_sem, r1]) (by simp [go_sem, r2]) (by simp [go_sem, r3]) (by simp [go_sem, r4]) (by simp [go_sem, r5]) (by simp [go_sem, r6]) (by simp [go_sem, r7]) (by simp [go_sem, r8]) (by simp [go_sem, r9]) (by simp [go_sem, r10])) rfl
        (by simp [World.cell?_setCell_far, nRS, s0]) (by simp [World.cell?_setCell_far, nRS, s2]) (by simp [World.cell?_setCell_far, nRS, s4]) (by simp [fs4]) (by simp [World.cell?_setCell_far, nRQ, q0]) (by simp [fq0]) hSQ nRS nRQ ?_
      refine HP.out (.pointer (some ⟨L, 0, none⟩)) _ _ ⟨rfl, ?_, .inr ⟨by trivial, L, rfl, by omega, ?_, ?_⟩⟩
      · iterate 13 refine K2.put ?_ _ _ _ (by omega)
        exact HK8.out
      · refine ⟨by simp [World.cell?_setCell_far, nLS, nLQ, nLR, m80], s8, by simp [World.cell?_setCell_far, nLS, nLQ, nLR, m81], ?_⟩
        exact NatIs.keep_ge (v := q + 1) HN8.out w7.heap.size HB8.out (fun b o hb => by simp [World.cell?_setCell_far, show S ≠ b by omega, show Q ≠ b by omega, show w.heap.size ≠ b by omega])
      · intro o
        simp [fl8.out o]
end Go.Proofs.YbulkaveaDoor

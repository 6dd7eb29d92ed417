import Derived.Test.YbulkaveaDoorStat0
namespace Go.Proofs.YbulkaveaDoor
open Go.RowKit
set_option linter.unusedVariables false
set_option linter.unusedSimpArgs false

theorem range11 (w : World) (R : Nat) (v0 v1 v2 v3 v4 v5 v6 v7 v8 v9 v10 : Value) (h0 : w.cell? ⟨R, 0, none⟩ = some v0) (h1 : w.cell? ⟨R, 1, none⟩ = some v1) (h2 : w.cell? ⟨R, 2, none⟩ = some v2) (h3 : w.cell? ⟨R, 3, none⟩ = some v3)
    (h4 : w.cell? ⟨R, 4, none⟩ = some v4) (h5 : w.cell? ⟨R, 5, none⟩ = some v5) (h6 : w.cell? ⟨R, 6, none⟩ = some v6) (h7 : w.cell? ⟨R, 7, none⟩ = some v7) (h8 : w.cell? ⟨R, 8, none⟩ = some v8) (h9 : w.cell? ⟨R, 9, none⟩ = some v9) (h10 : w.cell? ⟨R, 10, none⟩ = some v10) :
    w.rangeAt R 0 [v0, v1, v2, v3, v4, v5, v6, v7, v8, v9, v10] := by
  intro j v hj
  match j, hj with
  | 0, hj => simp at hj; subst hj; exact h0
  | 1, hj => simp at hj; subst hj; exact h1
  | 2, hj => simp at hj; subst hj; exact h2
  | 3, hj => simp at hj; subst hj; exact h3
  | 4, hj => simp at hj; subst hj; exact h4
  | 5, hj => simp at hj; subst hj; exact h5
  | 6, hj => simp at hj; subst hj; exact h6
  | 7, hj => simp at hj; subst hj; exact h7
  | 8, hj => simp at hj; subst hj; exact h8
  | 9, hj => simp at hj; subst hj; exact h9
  | 10, hj => simp at hj; subst hj; exact h10
  | j + 11, hj => simp at hj

theorem info63 : (Ybad.prog.info? 63).map (·.size) = some 11 := by kernel_rfl
theorem res6 : Ybad.f6.results = #[.cell 4 63, .tmp 5] := by kernel_rfl

theorem results6_at (tmps : Array Value) (w : World) (R : Nat) (vs : List Value) (h4 : tmps.getD 4 undef = .pointer (some ⟨R, 0, none⟩)) (h5 : tmps.getD 5 undef = .nilIface) (hv : w.rangeAt R 0 vs) (hl : vs.length = 11) :
    (results Ybad.f6 tmps).run Ybad.prog w = .ok (.tuple #[.agg vs.toArray, .nilIface]) w := by
  have e4 : tmps[4]?.getD undef = .pointer (some ⟨R, 0, none⟩) := by simpa using h4
  have e5 : tmps[5]?.getD undef = .nilIface := by simpa using h5
  simp [results, res6, e4, e5, asAddr, run_loadVar_mid (P := Ybad.prog) w R 0 63 vs _ hv Ybad.underlying63 rfl (by rw [hl]; exact info63)]

theorem door_s (S Q R : Nat) (x0 x2 : Value) (vs : List Value) (tmps : Array Value) (w : World) (Post : Ending → World → Prop) (h4 : tmps.getD 4 undef = .pointer (some ⟨R, 0, none⟩)) (h5 : tmps.getD 5 undef = .nilIface)
    (hv : w.rangeAt R 0 vs) (hl : vs.length = 11) (s0 : w.cell? ⟨S, 0, none⟩ = some x0) (s2 : w.cell? ⟨S, 2, none⟩ = some x2) (s4 : w.cell? ⟨S, 4, none⟩ = some (.int .i32 1)) (f4 : w.frozen? ⟨S, 4, none⟩ = false)
    (q0 : w.cell? ⟨Q, 0, none⟩ = some (.int .i32 1)) (fq : w.frozen? ⟨Q, 0, none⟩ = false) (hn : S ≠ Q) (hRS : R ≠ S) (hRQ : R ≠ Q)
    (hP : Post (.returned (.tuple #[.agg vs.toArray, .nilIface])) ((w.setCell ⟨Q, 0, none⟩ (.int .i32 0)).setCell ⟨S, 4, none⟩ (.int .i32 0))) :
    bodyPostD Ybad.prog Ybad.f6 Post .ret { tmps := tmps, defers := [{ target := .fn (.func 16) #[], args := #[.pointer (some ⟨S, 0, none⟩), .pointer (some ⟨Q, 0, none⟩)] }] } w := by
  refine leaves_cons (f := 16) (args := #[.pointer (some ⟨S, 0, none⟩), .pointer (some ⟨Q, 0, none⟩)]) (by simp) (by simp [go_sem]) ?_
  refine (release_s S Q x0 x2 .returning w s0 s2 s4 f4 q0 fq hn).mono ?_
  rintro e u' w'' ⟨rfl, rfl, rfl⟩
  refine ⟨_, results6_at tmps _ R vs h4 h5 ?_ hl, hP⟩
  intro j v hj
  rw [World.cell?_setCell_far _ _ _ _ (fun h => hRS h.symm), World.cell?_setCell_far _ _ _ _ (fun h => hRQ h.symm)]
  exact hv j v hj

theorem setuint_from (L : Nat) (q : Int) (w X : World) (hX : Below w.heap.size w X) (c0 : w.cell? ⟨L, 0, none⟩ = some (.bool false)) (c1 : w.cell? ⟨L, 1, none⟩ = some (.slice none 0 0)) (fl : ∀ o, w.frozen? ⟨L, o, none⟩ = false) (q0 : 0 ≤ q) (q1 : q < 18446744073709551616) :
    Calls Ybad.prog 7 #[.pointer (some ⟨L, 0, none⟩), .int .u64 q] X fun e w' => e = .returned (.pointer (some ⟨L, 0, none⟩)) ∧ Fr L w w' ∧ w'.cell? ⟨L, 0, none⟩ = some (.bool false) ∧ ∃ s, w'.cell? ⟨L, 1, none⟩ = some s ∧ Hid (WordIs 0 w' s q) := by
  have zL : L < w.heap.size := World.block_lt_of_cell? w _ c0
  have hz := hX.size
  refine (setuint_any L q false X (((bcell hX).1 L 0 zL).trans c0) (((bcell hX).1 L 1 zL).trans c1) (((bcell hX).2 L 0 zL).trans (fl 0)) (((bcell hX).2 L 1 zL).trans (fl 1)) q0 q1).mono ?_
  rintro e w' ⟨rfl, hF, h0, s, h1, hW⟩
  refine ⟨rfl, (Fr.of_below hX zL).trans hF, h0, s, h1, ?_⟩
  rcases hW with h | ⟨B, hB, h⟩
  · exact .inl h
  · exact .inr ⟨B, Nat.zero_le _, h⟩

theorem bigadd_from (L D C : Nat) (s : Value) (q : Int) (w X : World) (hX : Below w.heap.size w X) (a0 : w.cell? ⟨L, 0, none⟩ = some (.bool false)) (a1 : w.cell? ⟨L, 1, none⟩ = some s) (fl : ∀ o, w.frozen? ⟨L, o, none⟩ = false) (hs : Hid (WordIs 0 w s q))
    (d0 : X.cell? ⟨D, 0, none⟩ = some (.bool false)) (d1 : X.cell? ⟨D, 1, none⟩ = some (.slice (some ⟨C, 0, none⟩) 1 1)) (c0 : X.cell? ⟨C, 0, none⟩ = some (.int .u64 1)) :
    Calls Ybad.prog 8 #[.pointer (some ⟨L, 0, none⟩), .pointer (some ⟨L, 0, none⟩), .pointer (some ⟨D, 0, none⟩)] X fun e w' => e = .returned (.pointer (some ⟨L, 0, none⟩)) ∧ Fr L w w' ∧ w'.cell? ⟨L, 0, none⟩ = some (.bool false) ∧ ∃ s', w'.cell? ⟨L, 1, none⟩ = some s' ∧ Hid (NatIs w' s' (q + 1)) ∧ Hid (∀ B l c, s' = .slice (some ⟨B, 0, none⟩) l c → w.heap.size ≤ B) := by
  have zL : L < w.heap.size := World.block_lt_of_cell? w _ a0
  have hz := hX.size
  refine (bigadd_any 0 L D C s q X (((bcell hX).1 L 0 zL).trans a0) (((bcell hX).1 L 1 zL).trans a1) (((bcell hX).2 L 0 zL).trans (fl 0)) (((bcell hX).2 L 1 zL).trans (fl 1)) (hs.out.below hX) d0 d1 c0).mono ?_
  rintro e w' ⟨rfl, hF, h0, s', h1, hN, hB⟩
  exact ⟨rfl, (Fr.of_below hX zL).trans hF, h0, s', h1, hN, fun B l c he => by have := hB B l c he; omega⟩

theorem steps_to (start inc lo hi cache : Int) (cy ord : Bool) (next q : Int) (w : World) (h0 : inc ≠ 0) (h1 : -9223372036854775808 ≤ inc) (h2 : inc ≤ 9223372036854775807) (hq : Hid (steps inc lo hi next = q)) :
    Calls Ybad.prog 20 #[.agg #[.int .i64 start, .int .i64 inc, .int .i64 lo, .int .i64 hi, .int .i64 cache, .bool cy, .bool ord], .int .i64 next] w fun e w' => e = .returned (.int .u64 q) ∧ w' = w.alloc (.cells #[.int .i64 start, .int .i64 inc, .int .i64 lo, .int .i64 hi, .int .i64 cache, .bool cy, .bool ord] 27) := by
  rw [← hq.out]
  exact steps_any start inc lo hi cache cy ord next w h0 h1 h2

theorem steps_range (inc lo hi next : Int) : 0 ≤ steps inc lo hi next ∧ steps inc lo hi next < 18446744073709551616 := by
  unfold steps
  split
  · rw [IntKind.wrap_u64]; omega
  · rw [IntKind.wrap_u64]; omega
end Go.Proofs.YbulkaveaDoor

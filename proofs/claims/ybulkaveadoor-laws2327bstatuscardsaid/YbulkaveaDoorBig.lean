import Derived.Test.YbulkaveaDoorTotal
import Derived.Laws.Twins
namespace Go.Proofs.YbulkaveaDoor
open Go.RowKit
set_option linter.unusedVariables false

theorem info91 : (Ybad.prog.info? 91).map (fun i => (i.zero, i.size, i.bytes)) = some (some (.int .u64 0), 1, 8) := by kernel_rfl
theorem run_make1 (w : World) : (Instr.makeSlice 70 (.int .i64 1) (.int .i64 1)).run Ybad.prog w = .ok (.slice (some ⟨w.heap.size, 0, none⟩) 1 1) (w.alloc (.cells #[.int .u64 0] 91)) := by
  obtain ⟨i, hi, hz, hs, hb⟩ := info_parts info91
  exact (run_make (P := Ybad.prog) w 70 91 i _ Ybad.underlying70 hi hz .i64 .i64 1 1 (by omega) (by omega) (by rw [hb]; decide) (by omega)).trans (by rw [hs, show madeCells (Value.int IntKind.u64 0).cells (Int.toNat 1 * 1) = #[.int .u64 0] from by kernel_rfl]; rfl)
theorem run_make2 (w : World) : (Instr.makeSlice 70 (.int .i64 2) (.int .i64 6)).run Ybad.prog w = .ok (.slice (some ⟨w.heap.size, 0, none⟩) 2 6) (w.alloc (.cells #[.int .u64 0, .int .u64 0, .int .u64 0, .int .u64 0, .int .u64 0, .int .u64 0] 91)) := by
  obtain ⟨i, hi, hz, hs, hb⟩ := info_parts info91
  exact (run_make (P := Ybad.prog) w 70 91 i _ Ybad.underlying70 hi hz .i64 .i64 2 6 (by omega) (by omega) (by rw [hb]; decide) (by omega)).trans (by rw [hs, show madeCells (Value.int IntKind.u64 0).cells (Int.toNat 6 * 1) = #[.int .u64 0, .int .u64 0, .int .u64 0, .int .u64 0, .int .u64 0, .int .u64 0] from by kernel_rfl]; rfl)

set_option maxHeartbeats 400000 in
theorem make_one (w : World) :
    Calls Ybad.prog 39 #[.slice none 0 0, .int .i64 1] w fun e w' => e = .returned (.slice (some ⟨w.heap.size, 0, none⟩) 1 1) ∧ w' = w.alloc (.cells #[.int .u64 0] 91) := by
  have hm := run_make1
  go_enter Ybad.func39, Ybad.ntmps39
  go_wp2
  go_ret
  exact ⟨rfl, rfl⟩

set_option maxHeartbeats 400000 in
theorem make_two (B : Nat) (w : World) :
    Calls Ybad.prog 39 #[.slice (some ⟨B, 0, none⟩) 1 1, .int .i64 2] w fun e w' => e = .returned (.slice (some ⟨w.heap.size, 0, none⟩) 2 6) ∧ w' = w.alloc (.cells #[.int .u64 0, .int .u64 0, .int .u64 0, .int .u64 0, .int .u64 0, .int .u64 0] 91) := by
  have hm := run_make2
  go_enter Ybad.func39, Ybad.ntmps39
  go_wp2
  go_ret
  exact ⟨rfl, rfl⟩

set_option maxHeartbeats 400000 in
theorem newint_one (w : World) :
    Calls Ybad.prog 9 #[.int .i64 1] w fun e w' => e = .returned (.pointer (some ⟨w.heap.size + 1, 0, none⟩)) ∧ w' = (w.alloc (.cells #[.int .u64 1] 91)).alloc (.cells #[.bool false, .slice (some ⟨w.heap.size, 0, none⟩) 1 1] 72) := by
  go_enter Ybad.func9, Ybad.ntmps9
  go_wp2
  go_ret
  exact ⟨rfl, rfl⟩

set_option maxHeartbeats 400000 in
theorem word_zero (w : World) :
    Calls Ybad.prog 38 #[.slice none 0 0, .int .u64 0] w fun e w' => e = .returned (.slice none 0 0) ∧ w' = w := by
  go_enter Ybad.func38, Ybad.ntmps38
  go_wp2
  go_ret
  exact ⟨rfl, rfl⟩

set_option maxHeartbeats 400000 in
theorem word_some (q : Int) (w : World) (h : q ≠ 0) :
    Calls Ybad.prog 38 #[.slice none 0 0, .int .u64 q] w fun e w' => e = .returned (.slice (some ⟨w.heap.size, 0, none⟩) 1 1) ∧ w' = w.alloc (.cells #[.int .u64 q] 91) := by
  go_enter Ybad.func38, Ybad.ntmps38
  go_wp2_with (go_at_call 39; refine (make_one _).mono ?_; rintro e w' ⟨rfl, rfl⟩)
  go_ret
  exact ⟨rfl, rfl⟩

set_option maxHeartbeats 400000 in
theorem setu_zero (w : World) :
    Calls Ybad.prog 27 #[.slice none 0 0, .int .u64 0] w fun e w' => e = .returned (.slice none 0 0) ∧ w' = w := by
  go_enter Ybad.func27, Ybad.ntmps27
  go_wp2_with (go_at_call 38; refine (word_zero _).mono ?_; rintro e w' ⟨rfl, rfl⟩)
  go_ret
  exact ⟨rfl, rfl⟩

set_option maxHeartbeats 400000 in
theorem setu_some (q : Int) (w : World) (h : q ≠ 0) (h0 : 0 ≤ q) (h1 : q < 18446744073709551616) :
    Calls Ybad.prog 27 #[.slice none 0 0, .int .u64 q] w fun e w' => e = .returned (.slice (some ⟨w.heap.size, 0, none⟩) 1 1) ∧ w' = w.alloc (.cells #[.int .u64 q] 91) := by
  go_enter Ybad.func27, Ybad.ntmps27
  go_wp2_with (go_at_call 38; refine (word_some q _ h).mono ?_; rintro e w' ⟨rfl, rfl⟩)
  go_ret
  exact ⟨rfl, rfl⟩

/-- Below A, and in every block but A that was there, nothing has turned. -/
def Fr (A : Nat) (w w' : World) : Prop :=
  Below A w w' ∧ w.heap.size ≤ w'.heap.size ∧ (∀ b o, b < w.heap.size → b ≠ A → w'.cell? ⟨b, o, none⟩ = w.cell? ⟨b, o, none⟩) ∧ (∀ b o, b < w.heap.size → w'.frozen? ⟨b, o, none⟩ = w.frozen? ⟨b, o, none⟩)

theorem Fr.refl (A : Nat) (w : World) : Fr A w w := ⟨Below.refl _ _, Nat.le_refl _, fun _ _ _ _ => rfl, fun _ _ _ => rfl⟩
theorem Fr.put {A : Nat} {w w' : World} (h : Fr A w w') (b o : Nat) (v : Value) (hb : b = A ∨ w.heap.size ≤ b) (hA : A < w.heap.size) : Fr A w (w'.setCell ⟨b, o, none⟩ v) := by
  obtain ⟨h1, h2, h3, h4⟩ := h
  refine ⟨Below.setCell h1 (by simp; omega) _, by simpa using h2, fun c p hc hn => ?_, fun c p hc => ?_⟩
  · rw [World.cell?_setCell_other _ _ _ _ (by intro he; injection he with e1 _ _; omega)]; exact h3 c p hc hn
  · rw [World.frozen?_setCell]; exact h4 c p hc
theorem Fr.drew {A : Nat} {w w' : World} (h : Fr A w w') : Fr A w w'.drew :=
  ⟨Below.drew h.1, h.2.1, h.2.2.1, h.2.2.2⟩
theorem Fr.alloc {A : Nat} {w w' : World} (h : Fr A w w') (o : Obj) (hA : A < w.heap.size) : Fr A w (w'.alloc o) := by
  obtain ⟨h1, h2, h3, h4⟩ := h
  refine ⟨Below.alloc h1 (by omega) _, by simp; omega, fun c p hc hn => ?_, fun c p hc => ?_⟩
  · rw [← h3 c p hc hn]; exact (Below.alloc (Below.refl w'.heap.size w') (Nat.le_refl _) o).cell (p := ⟨c, p, none⟩) (by show c < _; omega)
  · rw [← h4 c p hc]; exact (Below.alloc (Below.refl w'.heap.size w') (Nat.le_refl _) o).frozen (p := ⟨c, p, none⟩) (by show c < _; omega)

/-- What SetUint64 leaves at the words' cell. -/
def WordIs (n : Nat) (w : World) (s : Value) (q : Int) : Prop :=
  (q = 0 ∧ s = .slice none 0 0) ∨ (∃ B, n ≤ B ∧ 0 < q ∧ q < 18446744073709551616 ∧ s = .slice (some ⟨B, 0, none⟩) 1 1 ∧ w.cell? ⟨B, 0, none⟩ = some (.int .u64 q))

set_option maxHeartbeats 400000 in
theorem setuint_any (A : Nat) (q : Int) (v : Bool) (w : World) (c0 : w.cell? ⟨A, 0, none⟩ = some (.bool v)) (c1 : w.cell? ⟨A, 1, none⟩ = some (.slice none 0 0)) (f0 : w.frozen? ⟨A, 0, none⟩ = false) (f1 : w.frozen? ⟨A, 1, none⟩ = false) (q0 : 0 ≤ q) (q1 : q < 18446744073709551616) :
    Calls Ybad.prog 7 #[.pointer (some ⟨A, 0, none⟩), .int .u64 q] w fun e w' => e = .returned (.pointer (some ⟨A, 0, none⟩)) ∧ Fr A w w' ∧ w'.cell? ⟨A, 0, none⟩ = some (.bool false) ∧ ∃ s, w'.cell? ⟨A, 1, none⟩ = some s ∧ WordIs w.heap.size w' s q := by
  have zA : A < w.heap.size := World.block_lt_of_cell? w _ c0
  by_cases hq : q = 0
  · subst hq
    go_enter Ybad.func7, Ybad.ntmps7
    go_wp2_with (go_at_call 27; refine (setu_zero _).mono ?_; rintro e w' ⟨rfl, rfl⟩)
    go_ret
    refine ⟨rfl, ((Fr.refl A _).put _ _ _ (.inl rfl) zA).put _ _ _ (.inl rfl) zA, by simp [go_sem, c0], _, by simp [go_sem, c1], .inl ⟨rfl, rfl⟩⟩
  · go_enter Ybad.func7, Ybad.ntmps7
    go_wp2_with (go_at_call 27; refine (setu_some q _ hq q0 q1).mono ?_; rintro e w' ⟨rfl, rfl⟩)
    go_ret
    refine ⟨rfl, (((Fr.refl A _).put _ _ _ (.inl rfl) zA).put _ _ _ (.inl rfl) zA).alloc _ zA, ?_, .slice (some ⟨w.heap.size, 0, none⟩) 1 1, ?_, .inr ⟨w.heap.size, Nat.le_refl _, by omega, q1, rfl, ?_⟩⟩
    · rw [World.cell?_alloc_some] <;> simp [go_sem, c0]
    · rw [World.cell?_alloc_some] <;> simp [go_sem, c1]
    · simp [go_sem]

/-! ### Adding one -/
theorem add64_any (x y c : Int) (hx : 0 ≤ x) (hy : 0 ≤ y) (hc0 : 0 ≤ c) (hc : c ≤ 1) (w : World) :
    (callFunc 62 #[.int .u64 x, .int .u64 y, .int .u64 c]).run Ybad.prog w = .ok (.value (.tuple #[.int .u64 ((x + y + c) % 18446744073709551616), .int .u64 ((x + y + c) / 18446744073709551616)])) w := by
  rw [run_callFunc_extern (P := Ybad.prog) (e := add64Entry) Ybad.func62 (by kernel_rfl) (by kernel_rfl) (by kernel_rfl) (by kernel_rfl), run_add64 x y c hx hy hc0 hc w]; rfl

set_option maxHeartbeats 400000 in
theorem bitsadd_any (x y c : Int) (hx : 0 ≤ x) (hy : 0 ≤ y) (hc0 : 0 ≤ c) (hc : c ≤ 1) (w : World) :
    Calls Ybad.prog 44 #[.int .u64 x, .int .u64 y, .int .u64 c] w fun e w' => e = .returned (.tuple #[.int .u64 ((x + y + c) % 18446744073709551616), .int .u64 ((x + y + c) / 18446744073709551616)]) ∧ w' = w := by
  have h62 := add64_any x y c hx hy hc0 hc
  go_enter Ybad.func44, Ybad.ntmps44
  go_wp2
  exact bodyPost_ret (v := .tuple #[.int .u64 ((x + y + c) % 18446744073709551616), .int .u64 ((x + y + c) / 18446744073709551616)]) (by simp [results, Ybad.results44, go_sem]) rfl ⟨rfl, rfl⟩

theorem twin41 (args : Array Value) (w : World) : (callFunc 41 args).run Ybad.prog w = .ok (.enter 21 args) w :=
  run_callFunc_twin (P := Ybad.prog) (twin := Ybad.f21.name) Ybad.func41 (by kernel_rfl) (by kernel_rfl) (by kernel_rfl) (by kernel_rfl) Ybad.func21 (by kernel_rfl) (by kernel_rfl) (by kernel_rfl) args w

theorem bitsadd_zero (x y : Int) (hx : 0 ≤ x) (hy : 0 ≤ y) (w : World) :
    Calls Ybad.prog 44 #[.int .u64 x, .int .u64 y, .int .u64 0] w fun e w' => e = .returned (.tuple #[.int .u64 ((x + y) % 18446744073709551616), .int .u64 ((x + y) / 18446744073709551616)]) ∧ w' = w := by
  have h := bitsadd_any x y 0 hx hy (by omega) (by omega) w
  rw [Int.add_zero] at h
  exact h

set_option maxHeartbeats 1000000 in
/-- One word each. -/
theorem addvv_one (Z X Y cz cx cy : Nat) (z x y : Int) (w : World) (hz : w.cell? ⟨Z, 0, none⟩ = some (.int .u64 z)) (fz : w.frozen? ⟨Z, 0, none⟩ = false) (hx : w.cell? ⟨X, 0, none⟩ = some (.int .u64 x)) (hy : w.cell? ⟨Y, 0, none⟩ = some (.int .u64 y))
    (x0 : 0 ≤ x) (y0 : 0 ≤ y) :
    Calls Ybad.prog 21 #[.slice (some ⟨Z, 0, none⟩) 1 cz, .slice (some ⟨X, 0, none⟩) 1 cx, .slice (some ⟨Y, 0, none⟩) 1 cy] w fun e w' => e = .returned (.int .u64 ((x + y) / 18446744073709551616)) ∧ w' = (w.setCell ⟨Z, 0, none⟩ (.int .u64 ((x + y) % 18446744073709551616))).drew := by
  go_enter Ybad.func21, Ybad.ntmps21
  go_wp2
  go_loopw [6, 25] (fun c i wr => (c = .int .u64 0 ∧ i = .int .i64 0 ∧ wr = w) ∨ (c = .int .u64 ((x + y) / 18446744073709551616) ∧ i = .int .i64 1 ∧ wr = (w.setCell ⟨Z, 0, none⟩ (.int .u64 ((x + y) % 18446744073709551616))).drew)) (fun _ i _ => 1 - (intOf i).toNat)
  case atStart => exact .inl ⟨rfl, rfl, rfl⟩
  case round =>
    rcases hrel with ⟨rfl, rfl, rfl⟩ | ⟨rfl, rfl, rfl⟩
    · go_wp2
      go_region_held (fun w' => w'.cell? ⟨X, 0, none⟩ = some (.int .u64 x) ∧ w'.cell? ⟨Y, 0, none⟩ = some (.int .u64 y)) (go_keep) (first | (go_at_call 44; refine (bitsadd_zero x y x0 y0 _).mono ?_; rintro e w' ⟨rfl, rfl⟩))
      go_wp2
      go_roundw
      case rel => exact .inr ⟨rfl, rfl, trivial⟩
      case measure => simp [intOf]
    · go_wp2
      go_ret
      exact ⟨rfl, rfl⟩

set_option maxHeartbeats 1000000 in
/-- The second word is nought, the first isn't: one word stays. -/
theorem norm_one (Z cz : Nat) (a : Int) (w : World) (h0 : w.cell? ⟨Z, 0, none⟩ = some (.int .u64 a)) (h1 : w.cell? ⟨Z, 1, none⟩ = some (.int .u64 0)) (ha : a ≠ 0) (hc : 2 ≤ cz) (hc2 : cz ≤ 100) :
    Calls Ybad.prog 43 #[.slice (some ⟨Z, 0, none⟩) 2 cz] w fun e w' => e = .returned (.slice (some ⟨Z, 0, none⟩) 1 cz) ∧ w' = w := by
  go_enter Ybad.func43, Ybad.ntmps43
  go_wp2
  go_loop [3] (fun i => i = .int .i64 2 ∨ i = .int .i64 1) (fun i => (intOf i).toNat)
  case atStart => exact .inl rfl
  case round =>
    rcases hrel with rfl | rfl
    · go_wp2
      go_round
      case rel => exact .inr rfl
      case measure => simp [intOf]
    · go_wp2
      go_ret
      exact ⟨rfl, rfl⟩

set_option maxHeartbeats 1000000 in
theorem norm_two (Z cz : Nat) (a b : Int) (w : World) (h0 : w.cell? ⟨Z, 0, none⟩ = some (.int .u64 a)) (h1 : w.cell? ⟨Z, 1, none⟩ = some (.int .u64 b)) (hb : b ≠ 0) (hc : 2 ≤ cz) (hc2 : cz ≤ 100) :
    Calls Ybad.prog 43 #[.slice (some ⟨Z, 0, none⟩) 2 cz] w fun e w' => e = .returned (.slice (some ⟨Z, 0, none⟩) 2 cz) ∧ w' = w := by
  go_enter Ybad.func43, Ybad.ntmps43
  go_wp2
  go_loop [3] (fun i => i = .int .i64 2) (fun i => (intOf i).toNat)
  case atStart => exact rfl
  case round =>
    subst hrel
    go_wp2
    go_ret
    exact ⟨rfl, rfl⟩

theorem size91 : (Ybad.prog.info? 91).map (·.size) = some 1 := by kernel_rfl

set_option maxHeartbeats 1000000 in
theorem set_one (C : Nat) (w : World) (h0 : w.cell? ⟨C, 0, none⟩ = some (.int .u64 1)) :
    Calls Ybad.prog 40 #[.slice none 0 0, .slice (some ⟨C, 0, none⟩) 1 1] w fun e w' => e = .returned (.slice (some ⟨w.heap.size, 0, none⟩) 1 1) ∧ w' = w.alloc (.cells #[.int .u64 1] 91) := by
  have zC : C < w.heap.size := World.block_lt_of_cell? w _ h0
  have hcp : ∀ ty, (Builtin.copy_ #[70, 70] ty #[.slice (some ⟨w.heap.size, 0, none⟩) 1 1, .slice (some ⟨C, 0, none⟩) 1 1]).run Ybad.prog (w.alloc (.cells #[.int .u64 0] 91)) = .ok (.int .i64 1) (w.alloc (.cells #[.int .u64 1] 91)) := by
    intro ty
    refine (run_copy_cells (P := Ybad.prog) (w.alloc (.cells #[.int .u64 0] 91)) 70 70 ty 91 w.heap.size 0 1 1 ⟨C, 0, none⟩ 1 1 [.int .u64 1] Ybad.underlying70 size91 rfl ?_ ?_ ?_ ?_).trans ?_
    · intro j v hj
      cases j with
      | zero => simp at hj; subst hj; rw [Addr.add_mid]; rw [World.cell?_alloc_some] <;> simp [h0]
      | succ j => simp at hj
    · intro j hj; have : j = 0 := by simp at hj; omega
      subst this; simp [go_sem]
    · intro j hj; simp [go_sem]
    · intro v hv; simp at hv; subst hv; rfl
    · simp [World.setCells, goInt, go_sem]
  go_enter Ybad.func40, Ybad.ntmps40
  go_wp2_with (go_at_call 39; refine (make_one _).mono ?_; rintro e w' ⟨rfl, rfl⟩)
  go_ret
  exact ⟨rfl, rfl⟩

set_option maxHeartbeats 1000000 in
theorem add_zero2 (C : Nat) (w : World) (h0 : w.cell? ⟨C, 0, none⟩ = some (.int .u64 1)) :
    Calls Ybad.prog 28 #[.slice none 0 0, .slice (some ⟨C, 0, none⟩) 1 1, .slice none 0 0] w fun e w' => e = .returned (.slice (some ⟨w.heap.size, 0, none⟩) 1 1) ∧ w' = w.alloc (.cells #[.int .u64 1] 91) := by
  go_enter Ybad.func28, Ybad.ntmps28
  go_wp2_with (go_at_call 40; refine (set_one C _ h0).mono ?_; rintro e w' ⟨rfl, rfl⟩)
  go_ret
  exact ⟨rfl, rfl⟩

set_option maxHeartbeats 1000000 in
theorem add_zero (C : Nat) (w : World) (h0 : w.cell? ⟨C, 0, none⟩ = some (.int .u64 1)) :
    Calls Ybad.prog 28 #[.slice none 0 0, .slice none 0 0, .slice (some ⟨C, 0, none⟩) 1 1] w fun e w' => e = .returned (.slice (some ⟨w.heap.size, 0, none⟩) 1 1) ∧ w' = w.alloc (.cells #[.int .u64 1] 91) := by
  go_enter Ybad.func28, Ybad.ntmps28
  go_wp2_with (go_at_call 28; refine (add_zero2 C _ h0).mono ?_; rintro e w' ⟨rfl, rfl⟩)
  go_ret
  exact ⟨rfl, rfl⟩

set_option maxHeartbeats 2000000 in
theorem add_some (B C : Nat) (q : Int) (w : World) (hb : w.cell? ⟨B, 0, none⟩ = some (.int .u64 q)) (h0 : w.cell? ⟨C, 0, none⟩ = some (.int .u64 1)) (q0 : 0 < q) (q1 : q + 1 < 18446744073709551616) :
    Calls Ybad.prog 28 #[.slice (some ⟨B, 0, none⟩) 1 1, .slice (some ⟨B, 0, none⟩) 1 1, .slice (some ⟨C, 0, none⟩) 1 1] w fun e w' => e = .returned (.slice (some ⟨w.heap.size, 0, none⟩) 1 6) ∧ w' = (w.alloc (.cells #[.int .u64 (q + 1), .int .u64 0, .int .u64 0, .int .u64 0, .int .u64 0, .int .u64 0] 91)).drew.drew := by
  have zB : B < w.heap.size := World.block_lt_of_cell? w _ hb
  have zC : C < w.heap.size := World.block_lt_of_cell? w _ h0
  have e1 : (q + 1) % 18446744073709551616 = q + 1 := by omega
  have e2 : (q + 1) / 18446744073709551616 = 0 := by omega
  have h41 := twin41
  go_enter Ybad.func28, Ybad.ntmps28
  go_wp2_with (go_at_call 39; refine (make_two B _).mono ?_; rintro e w' ⟨rfl, rfl⟩)
  have nB : w.heap.size ≠ B := by omega
  have nC : w.heap.size ≠ C := by omega
  go_region_held (fun w' => w'.cell? ⟨B, 0, none⟩ = some (.int .u64 q) ∧ w'.cell? ⟨C, 0, none⟩ = some (.int .u64 1)) (go_keep) (first | (go_at_call 21; refine (addvv_one w.heap.size B C _ _ _ 0 q 1 _ (by simp [go_sem]) (by simp [go_sem]) (by simp [*]) (by simp [*]) (by omega) (by omega)).mono ?_; rintro e w' ⟨rfl, rfl⟩))
  go_wp2_with (go_at_call 43; refine (norm_one w.heap.size 6 (q + 1) _ (by simp [go_sem]) (by simp [go_sem]) (by omega) (by omega) (by omega)).mono ?_; rintro e w' ⟨rfl, rfl⟩)
  go_ret
  exact ⟨rfl, rfl⟩

set_option maxHeartbeats 2000000 in
theorem add_max (B C : Nat) (q : Int) (w : World) (hb : w.cell? ⟨B, 0, none⟩ = some (.int .u64 q)) (h0 : w.cell? ⟨C, 0, none⟩ = some (.int .u64 1)) (q1 : q = 18446744073709551615) :
    Calls Ybad.prog 28 #[.slice (some ⟨B, 0, none⟩) 1 1, .slice (some ⟨B, 0, none⟩) 1 1, .slice (some ⟨C, 0, none⟩) 1 1] w fun e w' => e = .returned (.slice (some ⟨w.heap.size, 0, none⟩) 2 6) ∧ w' = (w.alloc (.cells #[.int .u64 0, .int .u64 1, .int .u64 0, .int .u64 0, .int .u64 0, .int .u64 0] 91)).drew.drew := by
  have zB : B < w.heap.size := World.block_lt_of_cell? w _ hb
  have zC : C < w.heap.size := World.block_lt_of_cell? w _ h0
  subst q1
  have h41 := twin41
  go_enter Ybad.func28, Ybad.ntmps28
  go_wp2_with (go_at_call 39; refine (make_two B _).mono ?_; rintro e w' ⟨rfl, rfl⟩)
  have nB : w.heap.size ≠ B := by omega
  have nC : w.heap.size ≠ C := by omega
  go_region_held (fun w' => w'.cell? ⟨B, 0, none⟩ = some (.int .u64 18446744073709551615) ∧ w'.cell? ⟨C, 0, none⟩ = some (.int .u64 1)) (go_keep) (first | (go_at_call 21; refine (addvv_one w.heap.size B C _ _ _ 0 18446744073709551615 1 _ (by simp [go_sem]) (by simp [go_sem]) (by simp [*]) (by simp [*]) (by omega) (by omega)).mono ?_; rintro e w' ⟨rfl, rfl⟩))
  go_wp2_with (go_at_call 43; refine (norm_two w.heap.size 6 0 1 _ (by simp [go_sem]) (by simp [go_sem]) (by omega) (by omega) (by omega)).mono ?_; rintro e w' ⟨rfl, rfl⟩)
  go_ret
  exact ⟨rfl, rfl⟩

/-- A natural number's words, as math/big keeps them; here up to 2^64. -/
def NatIs (w : World) (s : Value) (v : Int) : Prop :=
  (v = 0 ∧ s = .slice none 0 0) ∨ (∃ B c, 0 < v ∧ v < 18446744073709551616 ∧ s = .slice (some ⟨B, 0, none⟩) 1 c ∧ w.cell? ⟨B, 0, none⟩ = some (.int .u64 v)) ∨
    (∃ B c, v = 18446744073709551616 ∧ s = .slice (some ⟨B, 0, none⟩) 2 c ∧ w.cell? ⟨B, 0, none⟩ = some (.int .u64 0) ∧ w.cell? ⟨B, 1, none⟩ = some (.int .u64 1))

theorem add_any (n C : Nat) (s : Value) (q : Int) (w : World) (hs : WordIs n w s q) (h0 : w.cell? ⟨C, 0, none⟩ = some (.int .u64 1)) :
    Calls Ybad.prog 28 #[s, s, .slice (some ⟨C, 0, none⟩) 1 1] w fun e w' => ∃ l c, e = .returned (.slice (some ⟨w.heap.size, 0, none⟩) l c) ∧ 0 < l ∧ w'.heap.size = w.heap.size + 1 ∧ Below w.heap.size w w' ∧ Hid (NatIs w' (.slice (some ⟨w.heap.size, 0, none⟩) l c) (q + 1)) := by
  rcases hs with ⟨rfl, rfl⟩ | ⟨B, hB, q0, q1, rfl, hb⟩
  · refine (add_zero C w h0).mono ?_
    rintro e w' ⟨rfl, rfl⟩
    exact ⟨1, 1, rfl, by omega, by simp, Below.alloc (Below.refl _ _) (Nat.le_refl _) _, .inr (.inl ⟨_, _, by omega, by omega, rfl, by simp [go_sem]⟩)⟩
  · by_cases hm : q + 1 < 18446744073709551616
    · refine (add_some B C q w hb h0 q0 hm).mono ?_
      rintro e w' ⟨rfl, rfl⟩
      exact ⟨1, 6, rfl, by omega, by simp, Below.drew (Below.drew (Below.alloc (Below.refl _ _) (Nat.le_refl _) _)), .inr (.inl ⟨_, _, by omega, by omega, rfl, by simp [go_sem]⟩)⟩
    · refine (add_max B C q w hb h0 (by omega)).mono ?_
      rintro e w' ⟨rfl, rfl⟩
      exact ⟨2, 6, rfl, by omega, by simp, Below.drew (Below.drew (Below.alloc (Below.refl _ _) (Nat.le_refl _) _)), .inr (.inr ⟨_, _, by omega, rfl, by simp [go_sem], by simp [go_sem]⟩)⟩
end Go.Proofs.YbulkaveaDoor

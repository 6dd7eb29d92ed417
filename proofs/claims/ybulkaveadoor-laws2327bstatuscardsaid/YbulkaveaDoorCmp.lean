import Derived.Test.YbulkaveaDoorBigAdd
namespace Go.Proofs.YbulkaveaDoor
open Go.RowKit
set_option linter.unusedVariables false

set_option maxHeartbeats 1000000 in
theorem cmp_none (w : World) :
    Calls Ybad.prog 29 #[.slice none 0 0, .slice none 0 0] w fun e w' => e = .returned (.int .i64 0) ∧ w' = w := by
  go_enter Ybad.func29, Ybad.ntmps29
  go_wp2
  go_ret
  exact ⟨rfl, rfl⟩

set_option maxHeartbeats 1000000 in
theorem cmp_one (B E c d : Nat) (v : Int) (w : World) (hb : w.cell? ⟨B, 0, none⟩ = some (.int .u64 v)) (he : w.cell? ⟨E, 0, none⟩ = some (.int .u64 v)) :
    Calls Ybad.prog 29 #[.slice (some ⟨B, 0, none⟩) 1 c, .slice (some ⟨E, 0, none⟩) 1 d] w fun e w' => e = .returned (.int .i64 0) ∧ Below w.heap.size w w' := by
  go_enter Ybad.func29, Ybad.ntmps29
  go_wp2
  go_loopw [7] (fun i wr => i = .int .i64 0 ∧ ∃ n, wr = w.drewN n) (fun i _ => (intOf i).toNat)
  case atStart => exact ⟨rfl, 0, rfl⟩
  case round =>
    obtain ⟨rfl, n, rfl⟩ := hrel
    go_wp2
    go_quiet (fail)
    go_wp2
    go_quiet (fail)
    go_wp2
    go_quiet (fail)
    go_wp2
    go_ret
    refine ⟨rfl, ?_⟩
    repeat (first | exact Below.refl _ _ | refine below_drewN ?_ _)

set_option maxHeartbeats 1000000 in
theorem cmp_two (B E c d : Nat) (v u : Int) (w : World) (hb : w.cell? ⟨B, 0, none⟩ = some (.int .u64 v)) (he : w.cell? ⟨E, 0, none⟩ = some (.int .u64 v)) (hb1 : w.cell? ⟨B, 1, none⟩ = some (.int .u64 u)) (he1 : w.cell? ⟨E, 1, none⟩ = some (.int .u64 u)) :
    Calls Ybad.prog 29 #[.slice (some ⟨B, 0, none⟩) 2 c, .slice (some ⟨E, 0, none⟩) 2 d] w fun e w' => e = .returned (.int .i64 0) ∧ Below w.heap.size w w' := by
  go_enter Ybad.func29, Ybad.ntmps29
  go_wp2
  go_loopw [7] (fun i wr => (i = .int .i64 0 ∨ i = .int .i64 1) ∧ ∃ n, wr = w.drewN n) (fun i _ => (intOf i).toNat)
  case atStart => exact ⟨.inr rfl, 0, rfl⟩
  case round =>
    obtain ⟨rfl | rfl, n, rfl⟩ := hrel
    · go_wp2
      go_quiet (fail)
      go_wp2
      go_quiet (fail)
      go_wp2
      go_quiet (fail)
      go_wp2
      go_ret
      refine ⟨rfl, ?_⟩
      repeat (first | exact Below.refl _ _ | refine below_drewN ?_ _)
    · go_wp2
      go_quiet (fail)
      go_wp2
      go_roundw
      case rel => exact ⟨.inl rfl, _, rfl⟩
      case measure => simp [intOf]

/-- The number v, without sign, in the Int at A. -/
def BigIs (w : World) (A : Nat) (v : Int) : Prop := w.cell? ⟨A, 0, none⟩ = some (.bool false) ∧ ∃ s, w.cell? ⟨A, 1, none⟩ = some s ∧ NatIs w s v

theorem NatIs.below {w w' : World} {s : Value} {v : Int} (h : NatIs w s v) (hb : Below w.heap.size w w') : NatIs w' s v := by
  rcases h with h | ⟨B, c, h1, h2, h3, h4⟩ | ⟨B, c, h1, h2, h3, h4⟩
  · exact .inl h
  · exact .inr (.inl ⟨B, c, h1, h2, h3, (hb.cell (p := ⟨B, 0, none⟩) (World.block_lt_of_cell? w _ h4)).trans h4⟩)
  · exact .inr (.inr ⟨B, c, h1, h2, (hb.cell (p := ⟨B, 0, none⟩) (World.block_lt_of_cell? w _ h3)).trans h3, (hb.cell (p := ⟨B, 1, none⟩) (World.block_lt_of_cell? w _ h4)).trans h4⟩)

theorem cmp_any (s t : Value) (v : Int) (w : World) (hs : NatIs w s v) (ht : NatIs w t v) :
    Calls Ybad.prog 29 #[s, t] w fun e w' => e = .returned (.int .i64 0) ∧ Below w.heap.size w w' := by
  rcases hs with ⟨h, rfl⟩ | ⟨B, c, h1, h2, rfl, h4⟩ | ⟨B, c, h1, rfl, h3, h4⟩
  · rcases ht with ⟨k, rfl⟩ | ⟨E, d, k1, k2, rfl, k4⟩ | ⟨E, d, k1, rfl, k3, k4⟩
    · refine (cmp_none w).mono ?_
      rintro e w' ⟨rfl, rfl⟩
      exact ⟨rfl, Below.refl _ _⟩
    · omega
    · omega
  · rcases ht with ⟨k, rfl⟩ | ⟨E, d, k1, k2, rfl, k4⟩ | ⟨E, d, k1, rfl, k3, k4⟩
    · omega
    · exact cmp_one B E c d v w h4 k4
    · omega
  · rcases ht with ⟨k, rfl⟩ | ⟨E, d, k1, k2, rfl, k4⟩ | ⟨E, d, k1, rfl, k3, k4⟩
    · omega
    · omega
    · exact cmp_two B E c d 0 1 w h3 k3 h4 k4

theorem shape_of_cell {w : World} {A o : Nat} {v : Value} (h : w.cell? ⟨A, o, none⟩ = some v) : (w.shape? A).isSome = true := by
  unfold World.cell? at h
  unfold World.shape?
  split at h
  · rename_i c e f hc
    simp only at hc
    rw [hc]; rfl
  · cases h

theorem run_sameAddr_apart (w : World) (A D : Nat) (va vd : Value) (ca : w.cell? ⟨A, 0, none⟩ = some va) (cd : w.cell? ⟨D, 0, none⟩ = some vd) (hn : A ≠ D) (fa : ∀ o, w.frozen? ⟨A, o, none⟩ = false) (fd : ∀ o, w.frozen? ⟨D, o, none⟩ = false) :
    (sameAddr ⟨A, 0, none⟩ ⟨D, 0, none⟩).run Ybad.prog w = .ok false w := by
  have ha : (stringish ⟨A, 0, none⟩).run Ybad.prog w = .ok false w := by
    cases h : w.shape? A <;> simp [stringish, fa, h]
  have hd : (stringish ⟨D, 0, none⟩).run Ybad.prog w = .ok false w := by
    cases h : w.shape? D <;> simp [stringish, fd, h]
  have sa := shape_of_cell ca
  have sd := shape_of_cell cd
  simp [sameAddr, hn, fa, fd, noView, viewAt, mayBeOne, ha, hd, sa, sd]

theorem info72 : (Ybad.prog.info? 72).map (·.size) = some 2 := by kernel_rfl

theorem run_eql_apart (w : World) (A D : Nat) (va vd : Value) (ca : w.cell? ⟨A, 0, none⟩ = some va) (cd : w.cell? ⟨D, 0, none⟩ = some vd) (hn : A ≠ D) (fa : ∀ o, w.frozen? ⟨A, o, none⟩ = false) (fd : ∀ o, w.frozen? ⟨D, o, none⟩ = false) :
    (binOp .eql 61 (.pointer (some ⟨A, 0, none⟩)) (.pointer (some ⟨D, 0, none⟩))).run Ybad.prog w = .ok (.bool false) w := by
  obtain ⟨j, hj, hs⟩ := Option.map_eq_some_iff.1 info72
  have h : ∀ d : Nat, (Op.equalIn (d + 1) 61 (.pointer (some ⟨A, 0, none⟩)) (.pointer (some ⟨D, 0, none⟩))).run Ybad.prog w = .ok false w := fun d => by
    simp [Op.equalIn, run_underlying Ybad.underlying61, sizeOf, typeInfo, hj, hs, run_sameAddr_apart w A D va vd ca cd hn fa fd]
  simp only [binOp]
  simp [Op.equal, Op.maxDepth, h 9999]

set_option maxHeartbeats 1000000 in
theorem bigcmp_any (A D : Nat) (v : Int) (w : World) (ha : BigIs w A v) (hd : BigIs w D v) (hn : A ≠ D) (fa : Hid (∀ o, w.frozen? ⟨A, o, none⟩ = false)) (fd : Hid (∀ o, w.frozen? ⟨D, o, none⟩ = false)) :
    Calls Ybad.prog 10 #[.pointer (some ⟨A, 0, none⟩), .pointer (some ⟨D, 0, none⟩)] w fun e w' => e = .returned (.int .i64 0) ∧ Below w.heap.size w w' := by
  obtain ⟨a0, s, a1, hs⟩ := ha
  obtain ⟨d0, t, d1, ht⟩ := hd
  have HS : Hid (NatIs w s v) := hs
  have HT : Hid (NatIs w t v) := ht
  clear hs ht
  have hne := run_eql_apart w A D _ _ a0 d0 hn fa.out fd.out
  have zA : A < w.heap.size := World.block_lt_of_cell? w _ a0
  have zD : D < w.heap.size := World.block_lt_of_cell? w _ d0
  have keepS : Hid (∀ w' : World, Below w.heap.size w w' → (Below w.heap.size w w' ∧ w'.cell? ⟨A, 0, none⟩ = some (.bool false) ∧ w'.cell? ⟨A, 1, none⟩ = some s ∧ w'.cell? ⟨D, 0, none⟩ = some (.bool false) ∧ w'.cell? ⟨D, 1, none⟩ = some t)) :=
    fun w' hb => ⟨hb, ((bcell hb).1 A 0 zA).trans a0, ((bcell hb).1 A 1 zA).trans a1, ((bcell hb).1 D 0 zD).trans d0, ((bcell hb).1 D 1 zD).trans d1⟩
  have keepN : Hid (∀ w' : World, Below w.heap.size w w' → NatIs w' s v ∧ NatIs w' t v) := fun w' hb =>
    ⟨HS.out.below hb, HT.out.below hb⟩
  go_enter Ybad.func10, Ybad.ntmps10
  go_wp2
  go_quiet (fail)
  go_wp2
  have hq1 : Below w.heap.size w (w.drewN nq) := below_drewN (Below.refl _ _) _
  generalize w.drewN nq = w2 at hq1 ⊢
  go_region_held (fun w' => Below w.heap.size w w' ∧ w'.cell? ⟨A, 0, none⟩ = some (.bool false) ∧ w'.cell? ⟨A, 1, none⟩ = some s ∧ w'.cell? ⟨D, 0, none⟩ = some (.bool false) ∧ w'.cell? ⟨D, 1, none⟩ = some t)
    ((refine keepS.out _ ?_; repeat (first | assumption | refine Below.drew ?_)))
    (first | (go_at_call 29; refine (cmp_any s t v _ (keepN.out _ (Below.drew hq1)).1 (keepN.out _ (Below.drew hq1)).2).mono ?_; rintro e w3 ⟨rfl, hb⟩; have hb := (Below.drew hq1).trans (hb.mono hq1.size)))
  obtain ⟨_, k1, _⟩ := keepS.out _ hb
  go_wp2
  go_ret
  exact ⟨rfl, hb⟩
end Go.Proofs.YbulkaveaDoor

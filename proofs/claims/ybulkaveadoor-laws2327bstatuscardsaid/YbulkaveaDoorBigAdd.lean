import Derived.Test.YbulkaveaDoorBig
import Derived.Test.YbulkaveaDoorTime
namespace Go.Proofs.YbulkaveaDoor
open Go.RowKit
set_option linter.unusedVariables false

theorem WordIs.below {n : Nat} {w w' : World} {s : Value} {q : Int} (h : WordIs n w s q) (hb : Below w.heap.size w w') : WordIs n w' s q := by
  rcases h with h | ⟨B, h1, h2, h3, h4, h5⟩
  · exact .inl h
  · exact .inr ⟨B, h1, h2, h3, h4, (hb.cell (p := ⟨B, 0, none⟩) (World.block_lt_of_cell? w _ h5)).trans h5⟩

theorem Fr.of_below {A : Nat} {w w' : World} (h : Below w.heap.size w w') (hA : A < w.heap.size := by omega) : Fr A w w' :=
  ⟨h.mono (by omega), h.size, fun b o hb _ => h.cell (p := ⟨b, o, none⟩) hb, fun b o hb => h.frozen (p := ⟨b, o, none⟩) hb⟩

theorem NatIs.keep_ge {w w' : World} {s : Value} {v : Int} (h : NatIs w s v) (n : Nat) (ha : ∀ B l c, s = .slice (some ⟨B, 0, none⟩) l c → n ≤ B) (hk : ∀ b o, n ≤ b → w'.cell? ⟨b, o, none⟩ = w.cell? ⟨b, o, none⟩) : NatIs w' s v := by
  rcases h with h | ⟨B, c, h1, h2, h3, h4⟩ | ⟨B, c, h1, h2, h3, h4⟩
  · exact .inl h
  · exact .inr (.inl ⟨B, c, h1, h2, h3, (hk B 0 (ha _ _ _ h3)).trans h4⟩)
  · exact .inr (.inr ⟨B, c, h1, h2, (hk B 0 (ha _ _ _ h2)).trans h3, (hk B 1 (ha _ _ _ h2)).trans h4⟩)

theorem NatIs.keep {w w' : World} {s : Value} {v : Int} (h : NatIs w s v) (A : Nat) (ha : ∀ B l c, s = .slice (some ⟨B, 0, none⟩) l c → B ≠ A) (hk : ∀ b o, b < w.heap.size → b ≠ A → w'.cell? ⟨b, o, none⟩ = w.cell? ⟨b, o, none⟩) : NatIs w' s v := by
  rcases h with h | ⟨B, c, h1, h2, h3, h4⟩ | ⟨B, c, h1, h2, h3, h4⟩
  · exact .inl h
  · exact .inr (.inl ⟨B, c, h1, h2, h3, (hk B 0 (World.block_lt_of_cell? w _ h4) (ha _ _ _ h3)).trans h4⟩)
  · exact .inr (.inr ⟨B, c, h1, h2, (hk B 0 (World.block_lt_of_cell? w _ h3) (ha _ _ _ h2)).trans h3, (hk B 1 (World.block_lt_of_cell? w _ h3) (ha _ _ _ h2)).trans h4⟩)

set_option maxHeartbeats 2000000 in
theorem bigadd_any (n A D C : Nat) (s : Value) (q : Int) (w : World) (a0 : w.cell? ⟨A, 0, none⟩ = some (.bool false)) (a1 : w.cell? ⟨A, 1, none⟩ = some s) (f0 : w.frozen? ⟨A, 0, none⟩ = false) (f1 : w.frozen? ⟨A, 1, none⟩ = false)
    (hs : Hid (WordIs n w s q)) (d0 : w.cell? ⟨D, 0, none⟩ = some (.bool false)) (d1 : w.cell? ⟨D, 1, none⟩ = some (.slice (some ⟨C, 0, none⟩) 1 1)) (c0 : w.cell? ⟨C, 0, none⟩ = some (.int .u64 1)) :
    Calls Ybad.prog 8 #[.pointer (some ⟨A, 0, none⟩), .pointer (some ⟨A, 0, none⟩), .pointer (some ⟨D, 0, none⟩)] w fun e w' => e = .returned (.pointer (some ⟨A, 0, none⟩)) ∧ Fr A w w' ∧ w'.cell? ⟨A, 0, none⟩ = some (.bool false) ∧ ∃ s', w'.cell? ⟨A, 1, none⟩ = some s' ∧ Hid (NatIs w' s' (q + 1)) ∧ (∀ B l c, s' = .slice (some ⟨B, 0, none⟩) l c → w.heap.size ≤ B) := by
  have zA : A < w.heap.size := World.block_lt_of_cell? w _ a0
  have zD : D < w.heap.size := World.block_lt_of_cell? w _ d0
  have zC : C < w.heap.size := World.block_lt_of_cell? w _ c0
  have keepS : Hid (∀ w' : World, Below w.heap.size w w' → (Below w.heap.size w w' ∧ w'.cell? ⟨A, 0, none⟩ = some (.bool false) ∧ w'.cell? ⟨A, 1, none⟩ = some s ∧ w'.frozen? ⟨A, 0, none⟩ = false ∧ w'.frozen? ⟨A, 1, none⟩ = false ∧
      w'.cell? ⟨D, 0, none⟩ = some (.bool false) ∧ w'.cell? ⟨D, 1, none⟩ = some (.slice (some ⟨C, 0, none⟩) 1 1) ∧ w'.cell? ⟨C, 0, none⟩ = some (.int .u64 1))) :=
    fun w' hb => ⟨hb, ((bcell hb).1 A 0 zA).trans a0, ((bcell hb).1 A 1 zA).trans a1, ((bcell hb).2 A 0 zA).trans f0, ((bcell hb).2 A 1 zA).trans f1, ((bcell hb).1 D 0 zD).trans d0, ((bcell hb).1 D 1 zD).trans d1, ((bcell hb).1 C 0 zC).trans c0⟩
  go_enter Ybad.func8, Ybad.ntmps8
  go_wp2
  go_quiet (fail)
  go_wp2
  have hq1 : Below w.heap.size w (w.drewN nq) := below_drewN (Below.refl _ _) _
  generalize w.drewN nq = w2 at hq1 ⊢
  have hq2 := keepS.out _ hq1
  obtain ⟨_, k1, k2, k3, k4, k5, k6, k7⟩ := hq2
  have HQ : Hid (Below w.heap.size w w2) := hq1
  have HS : Hid (WordIs n w2.drew s q) := hs.out.below (Below.drew hq1)
  have hz2 : w.heap.size ≤ w2.heap.size := hq1.size
  clear hq1
  go_region_with (first | (go_at_call 28; refine (add_any n C s q _ HS.out (by simp [*])).mono ?_; rintro e w1 ⟨l, c, rfl, hl, hz, hb, HN⟩; have hW : Hid (Below w.heap.size w w1) := (Below.drew HQ.out).trans (hb.mono hz2); clear hb; obtain ⟨_, m1, m2, m3, m4, _, _, _⟩ := keepS.out _ hW.out))
  all_goals (
    have zw : A < w1.heap.size := World.block_lt_of_cell? w1 _ m1
    go_wp2
    go_ret
    refine ⟨rfl, ?_, by simp [go_sem, m1], .slice (some ⟨w2.heap.size, 0, none⟩) l c, by simp [go_sem, m2], ?_, by intro B l' c' he; injection he with e1; injection e1 with e1; injection e1 with e1; omega⟩
    · exact (Fr.of_below hW.out |>.put _ _ _ (.inl rfl) zA).put _ _ _ (.inl rfl) zA
    · refine NatIs.keep HN.out A (by intro B l' c' he; injection he with e1; injection e1 with e1; injection e1 with e1; omega) (fun b o hb hn => ?_)
      rw [World.cell?_setCell_other _ _ _ _ (by intro he; injection he with e1 _ _; omega), World.cell?_setCell_other _ _ _ _ (by intro he; injection he with e1 _ _; omega)])
end Go.Proofs.YbulkaveaDoor

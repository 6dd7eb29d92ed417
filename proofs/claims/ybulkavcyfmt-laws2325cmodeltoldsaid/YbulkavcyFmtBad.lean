import Derived.Test.YbulkavcyFmtLeaves
import Derived.Test.YbulkavcyFmtFacts
import Derived.RowKitTokens
namespace Go.Proofs.YbulkavcyFmt
open Go.RowKit Go.Extern.Stop Go.Stop Go.Extern
set_option linter.unusedVariables false
attribute [local go_sem] call18 guardOk fmt2 fmt2r fmt0 fmt0r op3 strict3 ptr65 elem65 isError65 ptr64 elem64 isError64

set_option maxHeartbeats 1000000 in
theorem check_bad (F : Interp) (p : Int) (a : Addr) (s : ByteArray) (w : World) (hF : F.answers w.tape) (hp : p < 0 ∨ 6 < p) (hg : w.cell? ⟨0, 0, none⟩ = some (.iface 65 (.pointer (some a)))) (hs : w.cell? a = some (.string s)) :
    Calls Ybaf.prog 9 #[.int .i64 p] w fun e w' => ∃ N, e = .returned (.iface 64 (.pointer (some ⟨N, 0, none⟩))) ∧ w'.cell? ⟨N, 1, none⟩ = some (.iface 65 (.pointer (some a))) ∧ w.heap.size ≤ N ∧ N < w'.heap.size ∧ Below w.heap.size w w' := by
  have hF' := answers_open hF
  have hop := opPlain65 "fmt.errorf" a s (w.alloc (.cells #[.iface 65 (.pointer (some a)), .iface 3 (.int .i64 p)] 20)) (cell_up hs _)
  rcases hp with hp | hp
  · go_enter Ybaf.func9, Ybaf.ntmps9
    go_wp2
    go_ret
    exact ⟨w.heap.size + 1, rfl, by simp [go_sem], by omega, by simp, (((Below.refl _ _).alloc (Nat.le_refl _) _).alloc (by simp) _).drew⟩
  · have hp' : ¬ p < 0 := by omega
    go_enter Ybaf.func9, Ybaf.ntmps9
    go_wp2
    go_ret
    exact ⟨w.heap.size + 1, rfl, by simp [go_sem], by omega, by simp, (((Below.refl _ _).alloc (Nat.le_refl _) _).alloc (by simp) _).drew⟩

set_option maxHeartbeats 1000000 in
theorem dur_bad (F : Interp) (d p : Int) (a : Addr) (s : ByteArray) (w : World) (hF : F.answers w.tape) (hp : p < 0 ∨ 6 < p) (hg : w.cell? ⟨0, 0, none⟩ = some (.iface 65 (.pointer (some a)))) (hs : w.cell? a = some (.string s)) :
    Calls Ybaf.prog 6 #[.int .i64 d, .int .i64 p] w fun e w' => ∃ N, e = .returned (.tuple #[.agg #[.int .i64 0, .int .u8 0], .string ⟨#[]⟩, .iface 64 (.pointer (some ⟨N, 0, none⟩))]) ∧ w'.cell? ⟨N, 1, none⟩ = some (.iface 65 (.pointer (some a))) ∧ w.heap.size ≤ N ∧ N < w'.heap.size ∧ Below w.heap.size w w' := by
  go_enter Ybaf.func6, Ybaf.ntmps6
  go_wp2_with fail
  refine (check_bad F p a s _ (by exact hF) hp (cell_up hg _) (cell_up hs _)).mono ?_
  rintro e w1 ⟨N, rfl, hN, hNg, hNl, hb⟩
  rw [World.size_alloc] at hNg
  have zl : w.heap.size < w1.heap.size := by have := hb.size; rw [World.size_alloc] at this; omega
  have q0 : w1.cell? ⟨w.heap.size, 0, none⟩ = some (.int .i64 0) := (hb.cell (p := ⟨w.heap.size, 0, none⟩) (by rw [World.size_alloc]; exact Nat.lt_succ_self _)).trans (cell_new w _ _ _).1
  have q1 : w1.cell? ⟨w.heap.size, 1, none⟩ = some (.int .u8 0) := (hb.cell (p := ⟨w.heap.size, 1, none⟩) (by rw [World.size_alloc]; exact Nat.lt_succ_self _)).trans (cell_new w _ _ _).2
  have f0 : ∀ o, w1.frozen? ⟨w.heap.size, o, none⟩ = false := fun o => (hb.frozen (p := ⟨w.heap.size, o, none⟩) (by rw [World.size_alloc]; exact Nat.lt_succ_self _)).trans (by simp [go_sem])
  have B1 : Hid (Below w.heap.size w w1) := ((Below.refl _ _).alloc (Nat.le_refl _) _).trans (hb.mono (by rw [World.size_alloc]; omega))
  clear hb
  go_wp2
  refine bodyPost_ret (v := .tuple #[.agg #[.int .i64 0, .int .u8 0], .string ⟨#[]⟩, .iface 64 (.pointer (some ⟨N, 0, none⟩))]) (by simp [results, Ybaf.results6, go_sem, q0, q1]) rfl ⟨N, rfl, ?_, by omega, by simpa using hNl, (B1.out.setCell (Nat.le_refl _) _).setCell (Nat.le_refl _) _⟩
  rw [World.cell?_setCell_other, World.cell?_setCell_other]
  · exact hN
  · simp
  · simp
end Go.Proofs.YbulkavcyFmt

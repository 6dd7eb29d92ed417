import Derived.Test.YbulkaveaDoorCmp
import Derived.Test.YbulkaveaDoorLocks
import Derived.Test.YbulkaveaDoorMap
import Derived.Conc.MuLone
import Derived.Conc.RwLone
import Derived.Defers
namespace Go.Proofs.YbulkaveaDoor
open Go.RowKit
set_option linter.unusedVariables false

theorem rlock_s (S : Nat) (x0 x3 : Value) (w : World) (c0 : w.cell? ⟨S, 0, none⟩ = some x0) (c3 : w.cell? ⟨S, 3, none⟩ = some x3) (c4 : w.cell? ⟨S, 4, none⟩ = some (.int .i32 0)) (f4 : w.frozen? ⟨S, 4, none⟩ = false) :
    Calls Ybad.prog 32 #[.pointer (some ⟨S, 0, none⟩)] w fun e w' => e = .returned (.tuple #[]) ∧ w' = w.setCell ⟨S, 4, none⟩ (.int .i32 1) := by
  have h := Go.RwLone.rlock_open rwRLib S 0 0 x0 x3 w c0 c3 c4 f4 (by unfold wrap32; omega)
  rw [show wrap32 (0 + 1) = 1 from by unfold wrap32; omega] at h
  exact h

theorem runlock_s (S : Nat) (x0 x2 : Value) (w : World) (c0 : w.cell? ⟨S, 0, none⟩ = some x0) (c2 : w.cell? ⟨S, 2, none⟩ = some x2) (c4 : w.cell? ⟨S, 4, none⟩ = some (.int .i32 1)) (f4 : w.frozen? ⟨S, 4, none⟩ = false) :
    Calls Ybad.prog 33 #[.pointer (some ⟨S, 0, none⟩)] w fun e w' => e = .returned (.tuple #[]) ∧ w' = w.setCell ⟨S, 4, none⟩ (.int .i32 0) := by
  have h := Go.RwLone.runlock_held rwRLib S 0 1 x0 x2 w c0 c2 c4 f4 (by unfold wrap32; omega)
  rw [show wrap32 (1 + -1) = 0 from by unfold wrap32; omega] at h
  exact h

theorem lock_q (Q : Nat) (w : World) (c0 : w.cell? ⟨Q, 0, none⟩ = some (.int .i32 0)) (f0 : w.frozen? ⟨Q, 0, none⟩ = false) :
    Calls Ybad.prog 34 #[.pointer (some ⟨Q, 0, none⟩)] w fun e w' => e = .returned (.tuple #[]) ∧ w' = w.setCell ⟨Q, 0, none⟩ (.int .i32 1) :=
  Go.MuLone.lock_free muLib ⟨Q, 0, none⟩ w c0 f0

theorem unlock_q (Q : Nat) (w : World) (c0 : w.cell? ⟨Q, 0, none⟩ = some (.int .i32 1)) (f0 : w.frozen? ⟨Q, 0, none⟩ = false) :
    Calls Ybad.prog 35 #[.pointer (some ⟨Q, 0, none⟩)] w fun e w' => e = .returned (.tuple #[]) ∧ w' = w.setCell ⟨Q, 0, none⟩ (.int .i32 0) :=
  Go.MuLone.unlock_held muLib ⟨Q, 0, none⟩ w c0 f0

set_option maxHeartbeats 1000000 in
theorem acquire_s (S M Q : Nat) (x0 x3 : Value) (n c : Nat) (w : World) (s0 : w.cell? ⟨S, 0, none⟩ = some x0) (s3 : w.cell? ⟨S, 3, none⟩ = some x3) (s4 : w.cell? ⟨S, 4, none⟩ = some (.int .i32 0)) (f4 : w.frozen? ⟨S, 4, none⟩ = false)
    (s6 : w.cell? ⟨S, 6, none⟩ = some (.map (some M))) (s9 : w.cell? ⟨S, 9, none⟩ = some (.bool false)) (hm : w.heap[M]? = some (.map #[⟨.string ⟨#[115]⟩, .pointer (some ⟨Q, 0, none⟩), n⟩] c))
    (q0 : w.cell? ⟨Q, 0, none⟩ = some (.int .i32 0)) (fq : w.frozen? ⟨Q, 0, none⟩ = false) (hn : S ≠ Q) :
    Calls Ybad.prog 15 #[.pointer (some ⟨S, 0, none⟩), .string ⟨#[115]⟩] w fun e w' => e = .returned (.tuple #[.pointer (some ⟨Q, 0, none⟩), .nilIface]) ∧ w' = (w.setCell ⟨S, 4, none⟩ (.int .i32 1)).setCell ⟨Q, 0, none⟩ (.int .i32 1) := by
  have hSM : S ≠ M := by
    intro h; subst h
    simp [World.cell?, hm] at s0
  have hm1 : (w.setCell ⟨S, 4, none⟩ (.int .i32 1)).heap[M]? = some (.map #[⟨.string ⟨#[115]⟩, .pointer (some ⟨Q, 0, none⟩), n⟩] c) := (heap_setCell_other w ⟨S, 4, none⟩ M _ (fun h => hSM h.symm)).trans hm
  have hlk := look_s (w.setCell ⟨S, 4, none⟩ (.int .i32 1)) M (.pointer (some ⟨Q, 0, none⟩)) n c hm1
  have hQ1 : (w.setCell ⟨S, 4, none⟩ (.int .i32 1)).cell? ⟨Q, 0, none⟩ = some (.int .i32 0) := (World.cell?_setCell_far _ _ _ _ hn).trans q0
  clear hm hm1
  go_enter Ybad.func15, Ybad.ntmps15
  go_wp2_with (first | (go_at_call 32; refine (rlock_s S x0 x3 _ s0 s3 s4 f4).mono ?_; rintro e w' ⟨rfl, rfl⟩) | (go_at_call 34; refine (lock_q Q _ hQ1 (by simpa using fq)).mono ?_; rintro e w' ⟨rfl, rfl⟩))
  exact bodyPost_ret (v := .tuple #[.pointer (some ⟨Q, 0, none⟩), .nilIface]) (by simp [results, Ybad.results15, go_sem]) rfl ⟨rfl, rfl⟩

set_option maxHeartbeats 1000000 in
theorem release_s (S Q : Nat) (x0 x2 : Value) (u : FrameMode) (w : World) (s0 : w.cell? ⟨S, 0, none⟩ = some x0) (s2 : w.cell? ⟨S, 2, none⟩ = some x2) (s4 : w.cell? ⟨S, 4, none⟩ = some (.int .i32 1)) (f4 : w.frozen? ⟨S, 4, none⟩ = false)
    (q0 : w.cell? ⟨Q, 0, none⟩ = some (.int .i32 1)) (fq : w.frozen? ⟨Q, 0, none⟩ = false) (hn : S ≠ Q) :
    CallsD Ybad.prog 16 #[.pointer (some ⟨S, 0, none⟩), .pointer (some ⟨Q, 0, none⟩)] u w fun e u' w' => u' = u ∧ (e = .returned (.tuple #[]) ∧ w' = (w.setCell ⟨Q, 0, none⟩ (.int .i32 0)).setCell ⟨S, 4, none⟩ (.int .i32 0)) := by
  have k0 : (w.setCell ⟨Q, 0, none⟩ (.int .i32 0)).cell? ⟨S, 0, none⟩ = some x0 := (World.cell?_setCell_far _ _ _ _ hn.symm).trans s0
  have k2 : (w.setCell ⟨Q, 0, none⟩ (.int .i32 0)).cell? ⟨S, 2, none⟩ = some x2 := (World.cell?_setCell_far _ _ _ _ hn.symm).trans s2
  have k4 : (w.setCell ⟨Q, 0, none⟩ (.int .i32 0)).cell? ⟨S, 4, none⟩ = some (.int .i32 1) := (World.cell?_setCell_far _ _ _ _ hn.symm).trans s4
  go_enter_d Ybad.func16, Ybad.ntmps16
  go_wp2_with (first | (go_at_call 35; refine (unlock_q Q _ q0 fq).mono ?_; rintro e w' ⟨rfl, rfl⟩) | (go_at_call 33; refine (runlock_s S x0 x2 _ k0 k2 k4 (by simpa using f4)).mono ?_; rintro e w' ⟨rfl, rfl⟩))
  go_end0
  exact ⟨rfl, rfl⟩
end Go.Proofs.YbulkaveaDoor

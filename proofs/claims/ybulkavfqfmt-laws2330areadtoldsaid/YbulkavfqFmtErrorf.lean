import Derived.Test.YbulkavfqFmtFacts
import Derived.WalkKit
import Derived.WalkSpells
import Derived.WalkLawsBesides
import Derived.Below
import Derived.RowKitTokens
namespace Go.Proofs.YbulkavfqFmt
open Go.RowKit Go.Extern.Stop Go.Stop Go.Extern
set_option linter.unusedVariables false
attribute [local go_sem] call11 guardOk fmt4 fmt4r fmt0 fmt0r op3 strict3 ptr61 elem61 isError61 ptr49 elem49 isError49

theorem cell_up {w : World} {a : Addr} {v : Value} (h : w.cell? a = some v) (o : Obj) : (w.alloc o).cell? a = some v :=
  (World.cell?_alloc_lt w o a (World.block_lt_of_cell? w a h)).trans h

set_option maxHeartbeats 1000000 in
/-- fmt.Errorf at take's format: a *fmt.wrapError round the sentinel, in a new block. -/
theorem errorf_bad (F : Interp) (B : Nat) (x y z : Int) (a : Addr) (s : ByteArray) (w : World) (hF : F.answers w.tape) (hs : w.cell? a = some (.string s))
    (c0 : w.cell? ⟨B, 0, none⟩ = some (.iface 61 (.pointer (some a)))) (c1 : w.cell? ⟨B, 1, none⟩ = some (.iface 3 (.int .i64 x))) (c2 : w.cell? ⟨B, 2, none⟩ = some (.iface 3 (.int .i64 y))) (c3 : w.cell? ⟨B, 3, none⟩ = some (.iface 3 (.int .i64 z))) :
    Calls Ybaf.prog 8 #[.string ⟨#[37, 119, 58, 32, 37, 100, 32, 98, 121, 116, 101, 115, 32, 119, 97, 110, 116, 101, 100, 32, 97, 116, 32, 98, 121, 116, 101, 32, 37, 100, 44, 32, 37, 100, 32, 108, 101, 102, 116]⟩, .slice (some ⟨B, 0, none⟩) 4 4] w
      fun e w' => ∃ N, e = .returned (.iface 49 (.pointer (some ⟨N, 0, none⟩))) ∧ w'.cell? ⟨N, 1, none⟩ = some (.iface 61 (.pointer (some a))) ∧ w.heap.size ≤ N ∧ N < w'.heap.size ∧ Below w.heap.size w w' := by
  have hF' := answers_open hF
  have hop := opPlain61 "fmt.errorf" a s w hs
  go_enter Ybaf.func8, Ybaf.ntmps8
  go_wp2
  go_ret
  exact ⟨w.heap.size, rfl, by simp [go_sem], Nat.le_refl _, by simp, ((Below.refl _ _).alloc (Nat.le_refl _) _).drew⟩
end Go.Proofs.YbulkavfqFmt

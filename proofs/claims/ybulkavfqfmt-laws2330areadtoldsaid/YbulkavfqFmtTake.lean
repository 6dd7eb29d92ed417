import Derived.Test.YbulkavfqFmtErrorf
import Derived.Deep.QuietTactic
import Derived.BigQuiet
import Derived.Deep.RegionWith
import Derived.RegionTactic
import Derived.Deep.RegionHeld
namespace Go.Proofs.YbulkavfqFmt
open Go.RowKit Go.Extern.Stop Go.Stop Go.Extern
set_option linter.unusedVariables false

theorem bcell {W w1 : World} (hb : Below W.heap.size W w1) : (∀ b o, b < W.heap.size → w1.cell? ⟨b, o, none⟩ = W.cell? ⟨b, o, none⟩) ∧ (∀ b o, b < W.heap.size → w1.frozen? ⟨b, o, none⟩ = W.frozen? ⟨b, o, none⟩) :=
  ⟨fun b o h => hb.cell (p := ⟨b, o, none⟩) h, fun b o h => hb.frozen (p := ⟨b, o, none⟩) h⟩

theorem errorf_at (F : Interp) (q : Nat) (x y z : Int) (a : Addr) (s : ByteArray) (w : World) (hF : F.answers w.tape) (hs : w.cell? a = some (.string s)) :
    Calls Ybaf.prog 8 #[.string ⟨#[37, 119, 58, 32, 37, 100, 32, 98, 121, 116, 101, 115, 32, 119, 97, 110, 116, 101, 100, 32, 97, 116, 32, 98, 121, 116, 101, 32, 37, 100, 44, 32, 37, 100, 32, 108, 101, 102, 116]⟩, .slice (some ⟨w.heap.size, 0, none⟩) 4 4]
      ((w.drewN q).alloc (.cells #[.iface 61 (.pointer (some a)), .iface 3 (.int .i64 x), .iface 3 (.int .i64 y), .iface 3 (.int .i64 z)] 20))
      fun e w' => ∃ N, e = .returned (.iface 49 (.pointer (some ⟨N, 0, none⟩))) ∧ w'.cell? ⟨N, 1, none⟩ = some (.iface 61 (.pointer (some a))) ∧ w.heap.size ≤ N ∧ N < w'.heap.size ∧ Below w.heap.size w w' := by
  have hz : (w.drewN q).heap.size = w.heap.size := by simp
  have hs' : (w.drewN q).cell? a = some (.string s) := by simpa using hs
  refine (errorf_bad F w.heap.size x y z a s _ (by simpa using hF) (cell_up hs' _) ?_ ?_ ?_ ?_).mono ?_
  · exact (World.cell?_alloc_at _ _ _ _ hz.symm).trans rfl
  · exact (World.cell?_alloc_at _ _ _ _ hz.symm).trans rfl
  · exact (World.cell?_alloc_at _ _ _ _ hz.symm).trans rfl
  · exact (World.cell?_alloc_at _ _ _ _ hz.symm).trans rfl
  rintro e w' ⟨N, rfl, hN, hNg, hNl, hb⟩
  rw [World.size_alloc, hz] at hNg hb
  refine ⟨N, rfl, hN, by omega, hNl, ?_⟩
  exact ((below_drewN (Below.refl _ w) q).alloc (by rw [hz]; exact Nat.le_refl _) _).trans (hb.mono (by omega))

set_option maxHeartbeats 1000000 in
theorem take_bad (F : Interp) (D : Nat) (a0 : Option Addr) (len cap o : Nat) (a : Addr) (s : ByteArray) (w : World) (hF : F.answers w.tape) (hg : w.cell? ⟨0, 0, none⟩ = some (.iface 61 (.pointer (some a)))) (hs : w.cell? a = some (.string s))
    (d0 : w.cell? ⟨D, 0, none⟩ = some (.slice a0 len cap)) (d1 : w.cell? ⟨D, 1, none⟩ = some (.int .i64 o)) (hl : len ≤ 1048576) (ho : o ≤ len) (hb : len < o + 4) :
    Calls Ybaf.prog 6 #[.pointer (some ⟨D, 0, none⟩), .int .i64 4] w
      fun e w' => ∃ N, e = .returned (.tuple #[.slice none 0 0, .iface 49 (.pointer (some ⟨N, 0, none⟩))]) ∧ w'.cell? ⟨N, 1, none⟩ = some (.iface 61 (.pointer (some a))) ∧ w.heap.size ≤ N ∧ N < w'.heap.size ∧ Below w.heap.size w w' := by
  have z0 : 0 < w.heap.size := World.block_lt_of_cell? w _ hg
  have zD : D < w.heap.size := World.block_lt_of_cell? w _ d0
  go_enter Ybaf.func6, Ybaf.ntmps6
  go_wp2
  go_quiet (fail)
  go_wp2
  go_region_held (fun w' => w'.cell? ⟨0, 0, none⟩ = some (.iface 61 (.pointer (some a))) ∧ w'.cell? ⟨D, 0, none⟩ = some (.slice a0 len cap) ∧ w'.cell? ⟨D, 1, none⟩ = some (.int .i64 o)) (go_keep)
    (first | (go_at_call 8; refine (errorf_at F _ _ _ _ a s w hF hs).mono ?_; rintro e w' ⟨N, rfl, hN, hNg, hNl, hb⟩; obtain ⟨hc, hf⟩ := bcell hb))
  go_wp2
  go_ret2
  exact ⟨N, rfl, hN, hNg, hNl, hb⟩

set_option maxHeartbeats 1000000 in
theorem take_ok (D g p len cap o : Nat) (w : World) (d0 : w.cell? ⟨D, 0, none⟩ = some (.slice (some ⟨g, p, none⟩) len cap)) (d1 : w.cell? ⟨D, 1, none⟩ = some (.int .i64 o)) (fD : w.frozen? ⟨D, 1, none⟩ = false)
    (hl : len ≤ 1048576) (hlc : len ≤ cap) (hcap : cap ≤ 9223372036854775807) (hb : o + 4 ≤ len) :
    Calls Ybaf.prog 6 #[.pointer (some ⟨D, 0, none⟩), .int .i64 4] w
      fun e w' => e = .returned (.tuple #[.slice (some ⟨g, p + o, none⟩) 4 (cap - o), .nilIface]) ∧ ∃ q, w' = (w.drewN q).setCell ⟨D, 1, none⟩ (.int .i64 (o + 4)) := by
  go_enter Ybaf.func6, Ybaf.ntmps6
  go_wp2
  go_quiet (fail)
  go_wp2
  go_quiet (fail)
  go_wp2
  go_ret2
  refine ⟨?_, _, rfl⟩
  show Ending.returned (.tuple #[.slice (some ⟨g, p + o, none⟩) (o + 4 - o) (cap - o), .nilIface]) = _
  rw [show o + 4 - o = 4 by omega]
end Go.Proofs.YbulkavfqFmt

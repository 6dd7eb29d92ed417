import Derived.Test.YbulkaveaDoorTail11
import Derived.BigQuiet
namespace Go.Proofs.YbulkaveaDoor
open Go.RowKit
set_option linter.unusedVariables false
set_option linter.unusedSimpArgs false

/-- The law's argument, as it lies in the law's own variable. -/
structure InAt (I : Nat) (inc0 mn mx cache : Int) (cy ord : Bool) (next0 : Int) (x : Bool) (r : Int) (a0 : Option Addr) (len cap : Nat) (sec gap : Int) (w : World) : Prop where
  i0 : w.cell? ⟨I, 0, none⟩ = some (.int .i64 inc0)
  i1 : w.cell? ⟨I, 1, none⟩ = some (.int .i64 mn)
  i2 : w.cell? ⟨I, 2, none⟩ = some (.int .i64 mx)
  i3 : w.cell? ⟨I, 3, none⟩ = some (.int .i64 cache)
  i4 : w.cell? ⟨I, 4, none⟩ = some (.bool cy)
  i5 : w.cell? ⟨I, 5, none⟩ = some (.bool ord)
  i6 : w.cell? ⟨I, 6, none⟩ = some (.int .i64 next0)
  i7 : w.cell? ⟨I, 7, none⟩ = some (.bool x)
  i8 : w.cell? ⟨I, 8, none⟩ = some (.int .i64 r)
  i9 : w.cell? ⟨I, 9, none⟩ = some (.slice a0 len cap)
  i10 : w.cell? ⟨I, 10, none⟩ = some (.int .u32 sec)
  i11 : w.cell? ⟨I, 11, none⟩ = some (.int .u8 gap)

theorem InAt.keep {I : Nat} {inc0 mn mx cache : Int} {cy ord : Bool} {next0 : Int} {x : Bool} {r : Int} {a0 : Option Addr} {len cap : Nat} {sec gap : Int} {w w' : World} (h : InAt I inc0 mn mx cache cy ord next0 x r a0 len cap sec gap w) (k : ∀ o, w'.cell? ⟨I, o, none⟩ = w.cell? ⟨I, o, none⟩) :
    InAt I inc0 mn mx cache cy ord next0 x r a0 len cap sec gap w' :=
  ⟨(k _).trans h.i0, (k _).trans h.i1, (k _).trans h.i2, (k _).trans h.i3, (k _).trans h.i4, (k _).trans h.i5, (k _).trans h.i6, (k _).trans h.i7, (k _).trans h.i8, (k _).trans h.i9, (k _).trans h.i10, (k _).trans h.i11⟩

set_option maxRecDepth 100000 in
set_option maxHeartbeats 4000000 in
theorem law_any (inc0 mn mx cache : Int) (cy ord : Bool) (next0 : Int) (x : Bool) (r : Int) (a0 : Option Addr) (len cap : Nat) (sec gap : Int) (xs : Nat → Int) (w : World) (j0 : -9223372036854775808 ≤ inc0) (j1 : inc0 ≤ 9223372036854775807)
    (hs : Hid (∀ i, i < len → ∃ g p, a0 = some ⟨g, p, none⟩ ∧ w.cell? ⟨g, p + i, none⟩ = some (.int .i64 (xs i)))) (hcap : len ≤ cap) (s0 : 0 ≤ sec) (s1 : sec ≤ 4294967295) (g0 : 0 ≤ gap) (g1 : gap ≤ 255) :
    Calls Ybad.prog 3 #[.agg #[.int .i64 inc0, .int .i64 mn, .int .i64 mx, .int .i64 cache, .bool cy, .bool ord, .int .i64 next0, .bool x, .int .i64 r, .slice a0 len cap, .int .u32 sec, .int .u8 gap]] w fun e w' => e = .returned (.bool true) ∧ Below w.heap.size w w' := by
  by_cases hlen : 1024 < len
  · go_enter Ybad.func3, Ybad.ntmps3
    go_wp2
    go_ret
    exact ⟨rfl, Below.alloc (Below.refl _ _) (Nat.le_refl _) _⟩
  · go_enter Ybad.func3, Ybad.ntmps3
    go_upto_if 32 with fail
    go_cut [3] from 25 (fun s3 wr => ∃ inc, s3 = .int .i64 inc ∧ inc ≠ 0 ∧ -9223372036854775808 ≤ inc ∧ inc ≤ 9223372036854775807 ∧ wr = w.alloc (.cells #[.int .i64 inc0, .int .i64 mn, .int .i64 mx, .int .i64 cache, .bool cy, .bool ord, .int .i64 next0, .bool x, .int .i64 r, .slice a0 len cap, .int .u32 sec, .int .u8 gap] 25))
    case first =>
      by_cases h0 : inc0 = 0
      · go_wp2_with fail
        go_meet
        exact ⟨1, rfl, by omega, by omega, by omega, rfl⟩
      · go_wp2_with fail
        go_meet
        exact ⟨inc0, rfl, h0, by omega, by omega, rfl⟩
    case rest =>
      obtain ⟨inc, rfl, i0, i1, i2, rfl⟩ := hcut
      go_upto_region 6 with fail
      go_quiet (fail)
      go_upto_if 39 with fail
      go_cut [4, 5] from 25 (fun s4 s5 wr => ∃ lo hi, s4 = .int .i64 lo ∧ s5 = .int .i64 hi ∧ Hid (Below w.heap.size w wr) ∧ wr.heap.size = w.heap.size + 1 ∧ InAt w.heap.size inc0 mn mx cache cy ord next0 x r a0 len cap sec gap wr)
      case first =>
        by_cases h0 : mx < mn
        · go_wp2_with fail
          go_meet
          exact ⟨mx, mn, rfl, rfl, below_drewN (Below.alloc (Below.refl _ _) (Nat.le_refl _) _) _, by simp, ⟨by simp [go_sem], by simp [go_sem], by simp [go_sem], by simp [go_sem], by simp [go_sem], by simp [go_sem], by simp [go_sem], by simp [go_sem], by simp [go_sem], by simp [go_sem], by simp [go_sem], by simp [go_sem]⟩⟩
        · go_wp2_with fail
          go_meet
          exact ⟨mn, mx, rfl, rfl, below_drewN (Below.alloc (Below.refl _ _) (Nat.le_refl _) _) _, by simp, ⟨by simp [go_sem], by simp [go_sem], by simp [go_sem], by simp [go_sem], by simp [go_sem], by simp [go_sem], by simp [go_sem], by simp [go_sem], by simp [go_sem], by simp [go_sem], by simp [go_sem], by simp [go_sem]⟩⟩
      case rest =>
        obtain ⟨W2, hW2⟩ : ∃ W2, W2 = wc := ⟨_, rfl⟩
        rw [← hW2] at hcut ⊢
        clear hW2
        obtain ⟨lo, hi, rfl, rfl, HB, z2, HI⟩ := hcut
        have Z2 : Hid (W2.heap.size = w.heap.size + 1) := z2
        clear z2
        obtain ⟨c0, c1, c2, c3, c4, c5, c6, c7, c8, c9, c10, c11⟩ := HI
        go_upto_if 46 with fail
        go_cut [6] from 25 (fun s6 wr => ∃ nx, s6 = .int .i64 nx ∧ wr = W2)
        case first =>
          by_cases h0 : next0 < lo
          · go_wp2_with fail
            go_meet
            exact ⟨lo, rfl, rfl⟩
          · go_wp2_with fail
            go_meet
            exact ⟨next0, rfl, rfl⟩
        case rest =>
          obtain ⟨nx, rfl, hw⟩ := hcut
          rw [hw]
          clear hw
          go_upto_if 50 with fail
          go_cut [6] from 25 (fun s6 wr => ∃ nx, s6 = .int .i64 nx ∧ wr = W2)
          case first =>
            by_cases h0 : hi < nx
            · go_wp2_with fail
              go_meet
              exact ⟨hi, rfl, rfl⟩
            · go_wp2_with fail
              go_meet
              exact ⟨nx, rfl, rfl⟩
          case rest =>
            obtain ⟨next, rfl, hw⟩ := hcut
            rw [hw]
            clear hw
            go_upto_region 14 with fail
            go_cut [7] from 25 (fun s7 wr => s7 = .pointer (some ⟨W2.heap.size, 0, none⟩) ∧ wr = W2.alloc (.cells #[.int .i64 next, .int .i64 inc, .int .i64 lo, .int .i64 hi, .int .i64 cache, .bool cy, .bool ord] 27))
            case first =>
              go_wp2_with fail
              go_meet
              exact ⟨rfl, rfl⟩
            case rest =>
              obtain ⟨rfl, hw⟩ := hcut
              have hb3 : Hid (Below W2.heap.size W2 wc) := by rw [hw]; exact Below.alloc (Below.refl _ _) (Nat.le_refl _) _
              have hz3 : Hid (wc.heap.size = W2.heap.size + 1) := by unfold Hid; rw [hw]; simp [go_sem]
              have ho : Hid (wc.cell? ⟨W2.heap.size, 0, none⟩ = some (.int .i64 next) ∧ wc.cell? ⟨W2.heap.size, 1, none⟩ = some (.int .i64 inc) ∧ wc.cell? ⟨W2.heap.size, 2, none⟩ = some (.int .i64 lo) ∧ wc.cell? ⟨W2.heap.size, 3, none⟩ = some (.int .i64 hi) ∧ wc.cell? ⟨W2.heap.size, 4, none⟩ = some (.int .i64 cache) ∧ wc.cell? ⟨W2.heap.size, 5, none⟩ = some (.bool cy) ∧ wc.cell? ⟨W2.heap.size, 6, none⟩ = some (.bool ord)) := by
                rw [hw]
                exact ⟨by simp [go_sem], by simp [go_sem], by simp [go_sem], by simp [go_sem], by simp [go_sem], by simp [go_sem], by simp [go_sem]⟩
              obtain ⟨W3, hW3⟩ : ∃ W3, W3 = wc := ⟨_, rfl⟩
              rw [← hW3] at hb3 hz3 ho ⊢
              clear hw hW3
              go_upto_region 15 with fail
              go_cut [8] from 25 (fun s8 wr => s8 = .pointer (some ⟨W3.heap.size, 0, none⟩) ∧ wr = W3.alloc (.cells (Array.replicate 60 (.int .i64 0)) 28))
              case first =>
                go_wp2_with fail
                go_meet
                exact ⟨rfl, rfl⟩
              case rest =>
                obtain ⟨rfl, hw⟩ := hcut
                have hb4 : Below W3.heap.size W3 wc := by rw [hw]; exact Below.alloc (Below.refl _ _) (Nat.le_refl _) _
                have hz : ∀ i, i < 60 → wc.cell? ⟨W3.heap.size, i, none⟩ = some (.int .i64 0) := by
                  intro i h
                  rw [hw]
                  simp [go_sem, h]
                have hf : ∀ o, wc.frozen? ⟨W3.heap.size, o, none⟩ = false := fun o => by rw [hw]; simp [go_sem]
                clear hw
                obtain ⟨o0, o1, o2, o3, o4, o5, o6⟩ := ho.out
                have e3 := hz3.out
                have e2 := Z2.out
                have k4 : ∀ b o, b < W3.heap.size → wc.cell? ⟨b, o, none⟩ = W3.cell? ⟨b, o, none⟩ := (bcell hb4).1
                have k3 : ∀ b o, b < W2.heap.size → wc.cell? ⟨b, o, none⟩ = W2.cell? ⟨b, o, none⟩ := fun b o h => (k4 b o (by omega)).trans ((bcell hb3.out).1 b o h)
                have zI : w.heap.size < W2.heap.size := by omega
                refine ‹∀ (a : Act) (w : World), Code.wp Ybad.prog _ _ a w → _› _ _ ?_
                exact tail11 w.heap.size w.heap.size W3.heap.size W2.heap.size inc lo hi next cache cy ord x r a0 len cap xs sec gap w wc
                  ((k3 _ _ zI).trans c4) ((k3 _ _ zI).trans c7) ((k3 _ _ zI).trans c8) ((k3 _ _ zI).trans c9) ((k3 _ _ zI).trans c10) ((k3 _ _ zI).trans c11)
                  ((k4 _ _ (by omega)).trans o0) ((k4 _ _ (by omega)).trans o1) ((k4 _ _ (by omega)).trans o2) ((k4 _ _ (by omega)).trans o3) ((k4 _ _ (by omega)).trans o4) ((k4 _ _ (by omega)).trans o5) ((k4 _ _ (by omega)).trans o6)
                  hz hf
                  (fun i h => by
                    obtain ⟨g, p, q1, q2⟩ := hs.out i h
                    have zg : g < w.heap.size := World.block_lt_of_cell? w _ q2
                    exact ⟨g, p, q1, ((k3 g _ (by omega)).trans ((bcell HB.out).1 g _ zg)).trans q2, by omega⟩)
                  (by omega) hcap i0 i1 i2 s0 s1 g0 g1 (by omega) (by omega) (HB.out.trans ((hb3.out.mono (by omega)).trans (hb4.mono (by omega)))) (by unfold Hid; omega)
end Go.Proofs.YbulkaveaDoor

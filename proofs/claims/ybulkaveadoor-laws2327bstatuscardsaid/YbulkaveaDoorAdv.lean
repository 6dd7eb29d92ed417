import Derived.Test.YbulkaveaDoorSeq
import Derived.Deep.MidRow
namespace Go.Proofs.YbulkaveaDoor
open Go.RowKit
set_option linter.unusedVariables false

/-- Cells of block Q between the offsets 15 and 75 alone may have turned. -/
def Past (Q : Nat) (w w' : World) : Prop :=
  Below Q w w' ∧ w'.heap.size = w.heap.size ∧ (∀ b o, (b ≠ Q ∨ o < 15 ∨ 75 < o) → w'.cell? ⟨b, o, none⟩ = w.cell? ⟨b, o, none⟩) ∧ (∀ b o, w'.frozen? ⟨b, o, none⟩ = w.frozen? ⟨b, o, none⟩)

theorem Past.refl (Q : Nat) (w : World) : Past Q w w := ⟨Below.refl _ _, rfl, fun _ _ _ => rfl, fun _ _ => rfl⟩

theorem Past.put {Q : Nat} {w w' : World} (h : Past Q w w') (o : Nat) (v : Value) (h1 : 15 ≤ o) (h2 : o ≤ 75) : Past Q w (w'.setCell ⟨Q, o, none⟩ v) := by
  obtain ⟨hb, hs, hc, hf⟩ := h
  refine ⟨Below.setCell hb (by simp) _, by simp [hs], ?_, ?_⟩
  · intro b p hp
    rw [← hc b p hp]
    apply World.cell?_setCell_other
    intro he
    injection he with e1 e2 e3
    omega
  · intro b p
    rw [← hf b p]
    simp

/-- The counts behind n seconds' clearing from second a on. -/
def clr (c : Nat → Int) (a : Int) : Nat → Nat → Int
  | 0, i => c i
  | n + 1, i => if i = ((a + n) % 60).toNat then 0 else clr c a n i

set_option maxHeartbeats 1000000 in
theorem adv_any (Q : Nat) (c : Nat → Int) (l x : Int) (w : World) (hc : Hid (∀ i, i < 60 → w.cell? ⟨Q, 15 + i, none⟩ = some (.int .i64 (c i)))) (hf : Hid (∀ o, w.frozen? ⟨Q, o, none⟩ = false))
    (hl : w.cell? ⟨Q, 75, none⟩ = some (.int .i64 l)) (l0 : 0 ≤ l) (l1 : l ≤ x) (x1 : x ≤ 4294967295) :
    Calls Ybad.prog 36 #[.pointer (some ⟨Q, 15, none⟩), .int .i64 x] w fun e w' => e = .returned (.tuple #[]) ∧ Past Q w w' ∧ (∀ i, i < 60 → w'.cell? ⟨Q, 15 + i, none⟩ = some (.int .i64 (clr c (max (l + 1) (x - 59)) (x + 1 - max (l + 1) (x - 59)).toNat i))) := by
  generalize ha : max (l + 1) (x - 59) = a
  have a0 : 0 ≤ a := by omega
  have a1 : a ≤ x + 1 := by omega
  have HA : Hid (max (l + 1) (x - 59) = a) := ha
  go_enter Ybad.func36, Ybad.ntmps36
  go_wp2
  all_goals (
    go_loopw [4] (fun s4 wr => ∃ n : Nat, (n : Int) ≤ x + 1 - a ∧ s4 = .int .i64 (a + n) ∧ Hid (∀ i, i < 60 → wr.cell? ⟨Q, 15 + i, none⟩ = some (.int .i64 (clr c a n i))) ∧ Hid (Past Q w wr) ∧ wr.cell? ⟨Q, 75, none⟩ = some (.int .i64 l)) (fun s4 _ => (x + 1 - intOf s4).toNat)
    case atStart => exact ⟨0, by omega, by simp; omega, hc, Past.refl Q w, hl⟩
    case round =>
      obtain ⟨n, hn, rfl, Hc, Hp, hcl⟩ := hrel
      by_cases hlt : a + n ≤ x
      · obtain ⟨j, hj⟩ : ∃ j : Nat, (a + n) % 60 = (j : Int) := ⟨((a + n) % 60).toNat, by omega⟩
        have hj6 : j < 60 := by omega
        have hcj : wr.cell? ⟨Q, 15 + j, none⟩ = some (.int .i64 (clr c a n j)) := Hc.out j hj6
        have hfj : wr.frozen? ⟨Q, 15 + j, none⟩ = false := (Hp.out.2.2.2 _ _).trans (hf.out _)
        have Hc' : Hid (∀ i, i < 60 → (wr.setCell ⟨Q, 15 + j, none⟩ (.int .i64 0)).cell? ⟨Q, 15 + i, none⟩ = some (.int .i64 (clr c a (n + 1) i))) := by
          intro i hi
          by_cases hij : i = j
          · subst hij
            rw [World.cell?_setCell_same _ _ _ hcj]
            simp [clr, hj]
          · rw [World.cell?_setCell_other _ _ _ _ (by intro he; injection he with _ e2 _; omega), Hc.out i hi]
            simp [clr, hj, hij]
        clear Hc
        go_wp2
        go_roundw
        case rel => exact ⟨n + 1, by omega, by simp; omega, Hc', Hp.out.put _ _ (by omega) (by omega), (World.cell?_setCell_other _ _ _ _ (by intro he; injection he with _ e2 _; omega)).trans hcl⟩
        case measure => simp [intOf]; omega
      · have hn' : n = (x + 1 - a).toNat := by omega
        have hfj : wr.frozen? ⟨Q, 75, none⟩ = false := (Hp.out.2.2.2 _ _).trans (hf.out _)
        have Hn : Hid (n = (x + 1 - a).toNat) := hn'
        clear hn'
        go_wp2
        all_goals go_end0
        all_goals refine ⟨rfl, Hp.out.put _ _ (by omega) (by omega), fun i hi => ?_⟩
        all_goals rw [World.cell?_setCell_other _ _ _ _ (by intro he; injection he with _ e2 _; omega), Hc.out i hi, ← Hn.out])
end Go.Proofs.YbulkaveaDoor

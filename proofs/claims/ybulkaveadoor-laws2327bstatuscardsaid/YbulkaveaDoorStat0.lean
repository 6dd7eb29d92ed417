import Derived.Test.YbulkaveaDoorAcq
import Derived.Deep.RegionHeld3
import Derived.Deep.Cut
namespace Go.Proofs.YbulkaveaDoor
open Go.RowKit
set_option linter.unusedVariables false
set_option linter.unusedSimpArgs false

theorem spent_to (Q : Nat) (x : Bool) (r : Int) (ex : Bool) (w : World) (c10 : w.cell? ⟨Q, 10, none⟩ = some (.bool x)) (c14 : w.cell? ⟨Q, 14, none⟩ = some (.int .i64 r)) (h : (x && decide (r = 0)) = ex) :
    Calls Ybad.prog 17 #[.pointer (some ⟨Q, 0, none⟩)] w fun e w' => e = .returned (.bool ex) ∧ w' = w := by
  subst h; exact spent_any Q x r w c10 c14

/-- What the store and its one sequence hold. -/
structure Held (S Q M B N : Nat) (x0 x2 x3 : Value) (start inc lo hi cache : Int) (cy ord : Bool) (next : Int) (x : Bool) (r : Int) (c : Nat → Int) (l now : Int) (w : World) : Prop where
  s0 : w.cell? ⟨S, 0, none⟩ = some x0
  s2 : w.cell? ⟨S, 2, none⟩ = some x2
  s3 : w.cell? ⟨S, 3, none⟩ = some x3
  s4 : w.cell? ⟨S, 4, none⟩ = some (.int .i32 0)
  s6 : w.cell? ⟨S, 6, none⟩ = some (.map (some M))
  s9 : w.cell? ⟨S, 9, none⟩ = some (.bool false)
  s14 : w.cell? ⟨S, 14, none⟩ = some (.int .u64 0)
  s15 : w.cell? ⟨S, 15, none⟩ = some (.int .i64 0)
  s16 : w.cell? ⟨S, 16, none⟩ = some (.pointer none)
  s17 : w.cell? ⟨S, 17, none⟩ = some (.func (.func 4) #[] #[.pointer (some ⟨B, 0, none⟩), .pointer (some ⟨N, 0, none⟩)])
  b0 : w.cell? ⟨B, 0, none⟩ = some (.int .u64 0)
  b1 : w.cell? ⟨B, 1, none⟩ = some (.int .i64 0)
  b2 : w.cell? ⟨B, 2, none⟩ = some (.pointer none)
  n0 : w.cell? ⟨N, 0, none⟩ = some (.int .i64 now)
  q0 : w.cell? ⟨Q, 0, none⟩ = some (.int .i32 0)
  q2 : w.cell? ⟨Q, 2, none⟩ = some (.int .i64 start)
  q3 : w.cell? ⟨Q, 3, none⟩ = some (.int .i64 inc)
  q4 : w.cell? ⟨Q, 4, none⟩ = some (.int .i64 lo)
  q5 : w.cell? ⟨Q, 5, none⟩ = some (.int .i64 hi)
  q6 : w.cell? ⟨Q, 6, none⟩ = some (.int .i64 cache)
  q7 : w.cell? ⟨Q, 7, none⟩ = some (.bool cy)
  q8 : w.cell? ⟨Q, 8, none⟩ = some (.bool ord)
  q9 : w.cell? ⟨Q, 9, none⟩ = some (.int .i64 next)
  q10 : w.cell? ⟨Q, 10, none⟩ = some (.bool x)
  q14 : w.cell? ⟨Q, 14, none⟩ = some (.int .i64 r)
  qc : ∀ i, i < 60 → w.cell? ⟨Q, 15 + i, none⟩ = some (.int .i64 (c i))
  q75 : w.cell? ⟨Q, 75, none⟩ = some (.int .i64 l)
  fs : w.frozen? ⟨S, 4, none⟩ = false
  fq : ∀ o, w.frozen? ⟨Q, o, none⟩ = false
  hm : ∃ n k, w.heap[M]? = some (.map #[⟨.string ⟨#[115]⟩, .pointer (some ⟨Q, 0, none⟩), n⟩] k)
  sq : S ≠ Q
  sb : S ≠ B
  sn : S ≠ N
  qb : Q ≠ B
  qn : Q ≠ N

/-- In the blocks that were there nothing has turned but the cells 15 to 75 of block Q. -/
def Alm (Q : Nat) (W w' : World) : Prop :=
  Below Q W w' ∧ W.heap.size ≤ w'.heap.size ∧ (∀ b o, b < W.heap.size → (b ≠ Q ∨ o < 15 ∨ 75 < o) → w'.cell? ⟨b, o, none⟩ = W.cell? ⟨b, o, none⟩) ∧ (∀ b o, b < W.heap.size → w'.frozen? ⟨b, o, none⟩ = W.frozen? ⟨b, o, none⟩)

theorem Alm.of_below {Q : Nat} {W w' : World} (h : Below W.heap.size W w') (hQ : Q < W.heap.size) : Alm Q W w' :=
  ⟨h.mono (by omega), h.size, fun b o hb _ => h.cell (p := ⟨b, o, none⟩) hb, fun b o hb => h.frozen (p := ⟨b, o, none⟩) hb⟩
theorem Alm.past {Q : Nat} {W Y w' : World} (h : Alm Q W Y) (k : Past Q Y w') : Alm Q W w' := by
  obtain ⟨h1, h2, h3, h4⟩ := h
  obtain ⟨k1, k2, k3, k4⟩ := k
  exact ⟨h1.trans k1, by omega, fun b o hb ho => (k3 b o ho).trans (h3 b o hb ho), fun b o hb => (k4 b o).trans (h4 b o hb)⟩
theorem Alm.drew {Q : Nat} {W w' : World} (h : Alm Q W w') : Alm Q W w'.drew := ⟨Below.drew h.1, h.2.1, h.2.2.1, h.2.2.2⟩
theorem Alm.put {Q : Nat} {W w' : World} (h : Alm Q W w') (b o : Nat) (v : Value) (hb : W.heap.size ≤ b) (hQ : Q < W.heap.size) : Alm Q W (w'.setCell ⟨b, o, none⟩ v) := by
  obtain ⟨h1, h2, h3, h4⟩ := h
  refine ⟨Below.setCell h1 (by show Q ≤ b; omega) _, by simpa using h2, fun c p hc ho => ?_, fun c p hc => ?_⟩
  · rw [World.cell?_setCell_other _ _ _ _ (by intro he; injection he with e1 _ _; omega)]; exact h3 c p hc ho
  · rw [World.frozen?_setCell]; exact h4 c p hc
theorem Alm.alloc {Q : Nat} {W w' : World} (h : Alm Q W w') (o : Obj) (hQ : Q < W.heap.size) : Alm Q W (w'.alloc o) := by
  obtain ⟨h1, h2, h3, h4⟩ := h
  refine ⟨Below.alloc h1 (by omega) _, by simp; omega, fun c p hc ho => ?_, fun c p hc => ?_⟩
  · rw [← h3 c p hc ho]; exact (Below.alloc (Below.refl w'.heap.size w') (Nat.le_refl _) o).cell (p := ⟨c, p, none⟩) (by show c < _; omega)
  · rw [← h4 c p hc]; exact (Below.alloc (Below.refl w'.heap.size w') (Nat.le_refl _) o).frozen (p := ⟨c, p, none⟩) (by show c < _; omega)

theorem total_from (Q : Nat) (c : Nat → Int) (l x tot : Int) (W Y : World) (hY : Below W.heap.size W Y) (hc : Hid (∀ i, i < 60 → W.cell? ⟨Q, 15 + i, none⟩ = some (.int .i64 (c i)))) (hf : Hid (∀ o, W.frozen? ⟨Q, o, none⟩ = false))
    (hl : W.cell? ⟨Q, 75, none⟩ = some (.int .i64 l)) (l0 : 0 ≤ l) (l1 : l ≤ x) (x1 : x ≤ 4294967295) (ht : Hid (tsum (clr c (max (l + 1) (x - 59)) (x + 1 - max (l + 1) (x - 59)).toNat) 60 = tot)) :
    Calls Ybad.prog 18 #[.pointer (some ⟨Q, 15, none⟩), .int .i64 x] Y fun e w' => e = .returned (.int .i64 tot) ∧ Past Q Y w' := by
  have zQ : Q < W.heap.size := World.block_lt_of_cell? W _ hl
  rw [← ht.out]
  exact total_any Q c l x Y (fun i hi => ((bcell hY).1 Q (15 + i) zQ).trans (hc.out i hi)) (fun o => ((bcell hY).2 Q o zQ).trans (hf.out o)) (((bcell hY).1 Q 75 zQ).trans hl) l0 l1 x1

theorem Alm.trans_below {Q : Nat} {W X w' : World} (h : Alm Q W X) (k : Below X.heap.size X w') (hQ : Q < W.heap.size) : Alm Q W w' := by
  obtain ⟨h1, h2, h3, h4⟩ := h
  have hz := k.size
  exact ⟨h1.trans (k.mono (by omega)), by omega, fun b o hb ho => (k.cell (p := ⟨b, o, none⟩) (by show b < _; omega)).trans (h3 b o hb ho), fun b o hb => (k.frozen (p := ⟨b, o, none⟩) (by show b < _; omega)).trans (h4 b o hb)⟩

theorem spent_from (Q : Nat) (x : Bool) (r : Int) (ex : Bool) (W Y : World) (hY : Alm Q W Y) (c10 : W.cell? ⟨Q, 10, none⟩ = some (.bool x)) (c14 : W.cell? ⟨Q, 14, none⟩ = some (.int .i64 r)) (h : (x && decide (r = 0)) = ex) :
    Calls Ybad.prog 17 #[.pointer (some ⟨Q, 0, none⟩)] Y fun e w' => e = .returned (.bool ex) ∧ w' = Y := by
  have zQ : Q < W.heap.size := World.block_lt_of_cell? W _ c10
  exact spent_to Q x r ex Y ((hY.2.2.1 Q 10 zQ (by omega)).trans c10) ((hY.2.2.1 Q 14 zQ (by omega)).trans c14) h

/-- The store's clock at W: all that 'seconds' reads. -/
structure Clock (S B N : Nat) (x : Int) (w : World) : Prop where
  s14 : w.cell? ⟨S, 14, none⟩ = some (.int .u64 0)
  s15 : w.cell? ⟨S, 15, none⟩ = some (.int .i64 0)
  s16 : w.cell? ⟨S, 16, none⟩ = some (.pointer none)
  s17 : w.cell? ⟨S, 17, none⟩ = some (.func (.func 4) #[] #[.pointer (some ⟨B, 0, none⟩), .pointer (some ⟨N, 0, none⟩)])
  b0 : w.cell? ⟨B, 0, none⟩ = some (.int .u64 0)
  b1 : w.cell? ⟨B, 1, none⟩ = some (.int .i64 0)
  b2 : w.cell? ⟨B, 2, none⟩ = some (.pointer none)
  n0 : w.cell? ⟨N, 0, none⟩ = some (.int .i64 x)

theorem seconds_from (S B N : Nat) (x : Int) (W X : World) (hX : Below W.heap.size W X) (h : Clock S B N x W) (x0 : 0 ≤ x) (x1 : x ≤ 4294967295) :
    Calls Ybad.prog 19 #[.pointer (some ⟨S, 0, none⟩)] X fun e w' => e = .returned (.int .i64 x) ∧ Below X.heap.size X w' := by
  have zS : S < W.heap.size := World.block_lt_of_cell? W _ h.s14
  have zB : B < W.heap.size := World.block_lt_of_cell? W _ h.b0
  have zN : N < W.heap.size := World.block_lt_of_cell? W _ h.n0
  exact seconds_any S B N x X (((bcell hX).1 S 14 zS).trans h.s14) (((bcell hX).1 S 15 zS).trans h.s15) (((bcell hX).1 S 16 zS).trans h.s16) (((bcell hX).1 S 17 zS).trans h.s17) (((bcell hX).1 B 0 zB).trans h.b0) (((bcell hX).1 B 1 zB).trans h.b1) (((bcell hX).1 B 2 zB).trans h.b2) (((bcell hX).1 N 0 zN).trans h.n0) x0 x1

/-- In the blocks that were there nothing has turned but in Q and S. -/
def K2 (Q S : Nat) (w w' : World) : Prop :=
  Below (min Q S) w w' ∧ w.heap.size ≤ w'.heap.size ∧ (∀ b o, b < w.heap.size → b ≠ Q → b ≠ S → w'.cell? ⟨b, o, none⟩ = w.cell? ⟨b, o, none⟩) ∧ (∀ b o, b < w.heap.size → w'.frozen? ⟨b, o, none⟩ = w.frozen? ⟨b, o, none⟩)

theorem K2.refl (Q S : Nat) (w : World) : K2 Q S w w := ⟨Below.refl _ _, Nat.le_refl _, fun _ _ _ _ _ => rfl, fun _ _ _ => rfl⟩
theorem K2.put {Q S : Nat} {w w' : World} (h : K2 Q S w w') (b o : Nat) (v : Value) (hb : b = Q ∨ b = S ∨ (w.heap.size ≤ b ∧ min Q S ≤ b)) : K2 Q S w (w'.setCell ⟨b, o, none⟩ v) := by
  obtain ⟨h1, h2, h3, h4⟩ := h
  refine ⟨Below.setCell h1 (by show min Q S ≤ b; omega) _, by simpa using h2, fun c p hc k1 k2 => ?_, fun c p hc => ?_⟩
  · rw [World.cell?_setCell_other _ _ _ _ (by intro he; injection he with e1 _ _; omega)]; exact h3 c p hc k1 k2
  · rw [World.frozen?_setCell]; exact h4 c p hc
theorem K2.alloc {Q S : Nat} {w w' : World} (h : K2 Q S w w') (o : Obj) (hQ : Q < w.heap.size) : K2 Q S w (w'.alloc o) := by
  obtain ⟨h1, h2, h3, h4⟩ := h
  refine ⟨Below.alloc h1 (by omega) _, by simp; omega, fun c p hc k1 k2 => ?_, fun c p hc => ?_⟩
  · rw [← h3 c p hc k1 k2]; exact (Below.alloc (Below.refl w'.heap.size w') (Nat.le_refl _) o).cell (p := ⟨c, p, none⟩) (by show c < _; omega)
  · rw [← h4 c p hc]; exact (Below.alloc (Below.refl w'.heap.size w') (Nat.le_refl _) o).frozen (p := ⟨c, p, none⟩) (by show c < _; omega)
theorem K2.alm {Q S : Nat} {w X Y : World} (h : K2 Q S w X) (k : Alm Q X Y) : K2 Q S w Y := by
  obtain ⟨h1, h2, h3, h4⟩ := h
  obtain ⟨k1, k2, k3, k4⟩ := k
  exact ⟨h1.trans (k1.mono (by omega)), by omega, fun b o hb n1 n2 => (k3 b o (by omega) (.inl n1)).trans (h3 b o hb n1 n2), fun b o hb => (k4 b o (by omega)).trans (h4 b o hb)⟩
theorem K2.fr {Q S T : Nat} {w X Y : World} (h : K2 Q S w X) (k : Fr T X Y) (hT : w.heap.size ≤ T) (hQ : Q < w.heap.size) : K2 Q S w Y := by
  obtain ⟨h1, h2, h3, h4⟩ := h
  obtain ⟨k1, k2, k3, k4⟩ := k
  exact ⟨h1.trans (k1.mono (by omega)), by omega, fun b o hb n1 n2 => (k3 b o (by omega) (by omega)).trans (h3 b o hb n1 n2), fun b o hb => (k4 b o (by omega)).trans (h4 b o hb)⟩
theorem Below.setCells {B : Nat} {a : World} (b : Nat) (hB : B ≤ b) : ∀ (vs : List Value) (o : Nat) (w : World), Below B a w → Below B a (w.setCells b o vs)
  | [], _, _, h => h
  | v :: vs, o, w, h => Below.setCells b hB vs (o + 1) (w.setCell ⟨b, o, none⟩ v) (Below.setCell h hB v)
theorem K2.cells {Q S : Nat} {w w' : World} (h : K2 Q S w w') (b o : Nat) (vs : List Value) (hb : w.heap.size ≤ b) (hQ : Q < w.heap.size) : K2 Q S w (w'.setCells b o vs) := by
  obtain ⟨h1, h2, h3, h4⟩ := h
  have hz : ∀ (vs : List Value) (o : Nat) (w' : World), (w'.setCells b o vs).heap.size = w'.heap.size := by
    intro vs
    induction vs with
    | nil => intro o w'; rfl
    | cons v vs ih => intro o w'; simp only [World.setCells, ih]; simp
  refine ⟨Below.setCells b (by omega) vs o w' h1, by rw [hz]; exact h2, fun c p hc k1 k2 => ?_, fun c p hc => ?_⟩
  · rw [World.cell?_setCells_out b vs o w' ⟨c, p, none⟩ (by intro he; simp only at he; omega)]; exact h3 c p hc k1 k2
  · rw [World.frozen?_setCells]; exact h4 c p hc
theorem Fr.trans_new {T L : Nat} {w X Y : World} (h : Fr T w X) (k : Fr L X Y) (hL : w.heap.size ≤ L) (hT : T < w.heap.size) : Fr T w Y := by
  obtain ⟨h1, h2, h3, h4⟩ := h
  obtain ⟨k1, k2, k3, k4⟩ := k
  exact ⟨h1.trans (k1.mono (by omega)), by omega, fun b o hb n1 => (k3 b o (by omega) (by omega)).trans (h3 b o hb n1), fun b o hb => (k4 b o (by omega)).trans (h4 b o hb)⟩
theorem Fr.trans {L : Nat} {w X Y : World} (h : Fr L w X) (k : Fr L X Y) : Fr L w Y := by
  obtain ⟨h1, h2, h3, h4⟩ := h
  obtain ⟨k1, k2, k3, k4⟩ := k
  exact ⟨h1.trans k1, by omega, fun b o hb n1 => (k3 b o (by omega) n1).trans (h3 b o hb n1), fun b o hb => (k4 b o (by omega)).trans (h4 b o hb)⟩
end Go.Proofs.YbulkaveaDoor

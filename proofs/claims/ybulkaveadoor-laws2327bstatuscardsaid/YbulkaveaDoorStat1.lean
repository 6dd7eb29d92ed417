import Derived.Test.YbulkaveaDoorGate
namespace Go.Proofs.YbulkaveaDoor
open Go.RowKit
set_option linter.unusedVariables false
set_option linter.unusedSimpArgs false

/-- What 'Status' finds in the four blocks that it reads and writes, from the making of its status on. -/
structure Sta (S Q R T : Nat) (x0 x2 o0 o1 o2 o3 o4 o5 o6 nx a7 a8 a9 a10 : Value) (w : World) : Prop where
  q2 : w.cell? ⟨Q, 2, none⟩ = some o0
  q3 : w.cell? ⟨Q, 3, none⟩ = some o1
  q4 : w.cell? ⟨Q, 4, none⟩ = some o2
  q5 : w.cell? ⟨Q, 5, none⟩ = some o3
  q6 : w.cell? ⟨Q, 6, none⟩ = some o4
  q7 : w.cell? ⟨Q, 7, none⟩ = some o5
  q8 : w.cell? ⟨Q, 8, none⟩ = some o6
  q9 : w.cell? ⟨Q, 9, none⟩ = some nx
  q0 : w.cell? ⟨Q, 0, none⟩ = some (.int .i32 1)
  t0 : w.cell? ⟨T, 0, none⟩ = some o0
  t1 : w.cell? ⟨T, 1, none⟩ = some o1
  t2 : w.cell? ⟨T, 2, none⟩ = some o2
  t3 : w.cell? ⟨T, 3, none⟩ = some o3
  t4 : w.cell? ⟨T, 4, none⟩ = some o4
  t5 : w.cell? ⟨T, 5, none⟩ = some o5
  t6 : w.cell? ⟨T, 6, none⟩ = some o6
  t7 : w.cell? ⟨T, 7, none⟩ = some a7
  t8 : w.cell? ⟨T, 8, none⟩ = some a8
  t9 : w.cell? ⟨T, 9, none⟩ = some a9
  t10 : w.cell? ⟨T, 10, none⟩ = some a10
  r0 : w.cell? ⟨R, 0, none⟩ = some (.int .i64 0)
  r1 : w.cell? ⟨R, 1, none⟩ = some (.int .i64 0)
  r2 : w.cell? ⟨R, 2, none⟩ = some (.int .i64 0)
  r3 : w.cell? ⟨R, 3, none⟩ = some (.int .i64 0)
  r4 : w.cell? ⟨R, 4, none⟩ = some (.int .i64 0)
  r5 : w.cell? ⟨R, 5, none⟩ = some (.bool false)
  r6 : w.cell? ⟨R, 6, none⟩ = some (.bool false)
  r7 : w.cell? ⟨R, 7, none⟩ = some (.int .i64 0)
  r8 : w.cell? ⟨R, 8, none⟩ = some (.bool false)
  r9 : w.cell? ⟨R, 9, none⟩ = some (.pointer none)
  r10 : w.cell? ⟨R, 10, none⟩ = some (.int .i64 0)
  s0 : w.cell? ⟨S, 0, none⟩ = some x0
  s2 : w.cell? ⟨S, 2, none⟩ = some x2
  s4 : w.cell? ⟨S, 4, none⟩ = some (.int .i32 1)
  fs : w.frozen? ⟨S, 4, none⟩ = false
  fq : w.frozen? ⟨Q, 0, none⟩ = false
  fr : ∀ o, w.frozen? ⟨R, o, none⟩ = false

theorem Sta.fr_keep {S Q R T L : Nat} {x0 x2 o0 o1 o2 o3 o4 o5 o6 nx a7 a8 a9 a10 : Value} {w w' : World} (h : Sta S Q R T x0 x2 o0 o1 o2 o3 o4 o5 o6 nx a7 a8 a9 a10 w) (k : Fr L w w') (nS : S ≠ L) (nQ : Q ≠ L) (nR : R ≠ L) (nT : T ≠ L) :
    Sta S Q R T x0 x2 o0 o1 o2 o3 o4 o5 o6 nx a7 a8 a9 a10 w' := by
  have zQ := World.block_lt_of_cell? w _ h.q0
  have zS := World.block_lt_of_cell? w _ h.s0
  have zT := World.block_lt_of_cell? w _ h.t0
  have zR := World.block_lt_of_cell? w _ h.r0
  have kQ : ∀ o, w'.cell? ⟨Q, o, none⟩ = w.cell? ⟨Q, o, none⟩ := fun o => k.2.2.1 Q o zQ nQ
  have kS : ∀ o, w'.cell? ⟨S, o, none⟩ = w.cell? ⟨S, o, none⟩ := fun o => k.2.2.1 S o zS nS
  have kT : ∀ o, w'.cell? ⟨T, o, none⟩ = w.cell? ⟨T, o, none⟩ := fun o => k.2.2.1 T o zT nT
  have kR : ∀ o, w'.cell? ⟨R, o, none⟩ = w.cell? ⟨R, o, none⟩ := fun o => k.2.2.1 R o zR nR
  exact ⟨(kQ _).trans h.q2, (kQ _).trans h.q3, (kQ _).trans h.q4, (kQ _).trans h.q5, (kQ _).trans h.q6, (kQ _).trans h.q7, (kQ _).trans h.q8, (kQ _).trans h.q9, (kQ _).trans h.q0, (kT _).trans h.t0, (kT _).trans h.t1, (kT _).trans h.t2, (kT _).trans h.t3, (kT _).trans h.t4, (kT _).trans h.t5, (kT _).trans h.t6, (kT _).trans h.t7, (kT _).trans h.t8, (kT _).trans h.t9, (kT _).trans h.t10, (kR _).trans h.r0, (kR _).trans h.r1, (kR _).trans h.r2, (kR _).trans h.r3, (kR _).trans h.r4, (kR _).trans h.r5, (kR _).trans h.r6, (kR _).trans h.r7, (kR _).trans h.r8, (kR _).trans h.r9, (kR _).trans h.r10, (kS _).trans h.s0, (kS _).trans h.s2, (kS _).trans h.s4, (k.2.2.2 S 4 zS).trans h.fs, (k.2.2.2 Q 0 zQ).trans h.fq, fun o => (k.2.2.2 R o zR).trans (h.fr o)⟩
end Go.Proofs.YbulkaveaDoor

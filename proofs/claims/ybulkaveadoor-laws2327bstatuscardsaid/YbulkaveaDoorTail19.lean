import Derived.Test.YbulkaveaDoorTail20
namespace Go.Proofs.YbulkaveaDoor
open Go.RowKit
set_option linter.unusedVariables false
set_option linter.unusedSimpArgs false

set_option maxRecDepth 100000 in
set_option maxHeartbeats 4000000 in
/-- From the call of Status on. -/
theorem tail19 {u0 u2 u9 u11 u13 u14 u16 u17 u18 u19 u20 u21 u22 u23 u24 u25 u26 u27 u28 u29 u30 u31 u32 u33 u34 u35 u36 u37 u38 u39 u40 u41 u42 u43 u44 u45 u46 u47 u48 u49 u50 u51 u52 u53 u54 u55 u56 u57 u58 u59 u60 u61 u62 u63 u64 u65 u66 u67 u68 u69 u70 u71 u72 u73 u74 u75 u76 u77 u78 u79 u80 u81 u82 u83 u84 u85 u86 u87 u88 u89 u90 u91 u92 u93 u94 u95 u96 u97 u98 u99 u100 u101 u102 u103 u104 u105 u106 u107 u108 u109 u110 u111 u112 u113 u114 u115 u116 u117 u118 u119 u120 u121 u122 u123 u124 u125 u126 u127 u128 u129 u130 u131 u132 u133 u134 u135 u136 u137 u138 u139 u140 u141 u142 u143 u144 u145 u146 u147 u148 u149 u150 u151 u152 u153 u154 u155 u156 u157 u158 u159 u160 u161 u162 u163 u164 u165 u166 u167 u168 u169 u170 u171 u172 u173 u174 u175 u176 u177 u178 u179 u180 u181 u182 u183 u184 u185 u186 u187 u188 u189 u190 u191 u192 u193 u194 u195 u196 u197 u198 u199 u200 u201 u202 u203 u204 u205 u206 u207 u208 u209 u210 u211 u212 u213 u214 u215 : Value} (n I C N O S Q M B : Nat) (x0 x2 x3 : Value) (c : Nat → Int) (inc lo hi next l now cache : Int) (cy ord x : Bool) (r : Int) (W0 w : World) (H : Held S Q M B N x0 x2 x3 next inc lo hi cache cy ord next x r c l now w)
    (i4 : w.cell? ⟨I, 4, none⟩ = some (.bool cy)) (i7 : w.cell? ⟨I, 7, none⟩ = some (.bool x)) (i8 : w.cell? ⟨I, 8, none⟩ = some (.int .i64 r))
    (o0 : w.cell? ⟨O, 0, none⟩ = some (.int .i64 next)) (o1 : w.cell? ⟨O, 1, none⟩ = some (.int .i64 inc)) (o2 : w.cell? ⟨O, 2, none⟩ = some (.int .i64 lo)) (o3 : w.cell? ⟨O, 3, none⟩ = some (.int .i64 hi)) (o4 : w.cell? ⟨O, 4, none⟩ = some (.int .i64 cache)) (o5 : w.cell? ⟨O, 5, none⟩ = some (.bool cy)) (o6 : w.cell? ⟨O, 6, none⟩ = some (.bool ord))
    (hc : Hid (∀ i, i < 60 → w.cell? ⟨C, i, none⟩ = some (.int .i64 (c i))))
    (i0 : inc ≠ 0) (i1 : -9223372036854775808 ≤ inc) (i2 : inc ≤ 9223372036854775807) (l0 : 0 ≤ l) (l1 : l ≤ now) (x1 : now ≤ 4294967295)
    (d1 : I ≠ Q) (d2 : I ≠ S) (d3 : C ≠ Q) (d4 : C ≠ S) (d5 : O ≠ Q) (d6 : O ≠ S) (hb : Hid (Below n W0 w)) (hnQ : n ≤ Q) (hnS : n ≤ S) :
    Code.wp Ybad.prog (tl (tl (tl (tl (tl (tl (tl (tl (tl (tl (tl (tl (tl (tl (tl (tl (tl (tl (tl (Ybad.f3.body.getD .ret)))))))))))))))))))) (bodyPost Ybad.prog Ybad.f3 fun e w' => e = .returned (.bool true) ∧ Below n W0 w') { tmps := #[u0, .pointer (some ⟨I, 0, none⟩), u2, .int .i64 inc, .int .i64 lo, .int .i64 hi, .int .i64 next, .pointer (some ⟨O, 0, none⟩), .pointer (some ⟨C, 0, none⟩), u9, .pointer (some ⟨N, 0, none⟩), u11, .int .i64 l, u13, u14, .pointer (some ⟨S, 0, none⟩), u16, u17, u18, u19, u20, u21, u22, u23, u24, u25, u26, u27, u28, u29, u30, u31, u32, u33, u34, u35, u36, u37, u38, u39, u40, u41, u42, u43, u44, u45, u46, u47, u48, u49, u50, u51, u52, u53, u54, u55, u56, u57, u58, u59, u60, u61, u62, u63, u64, u65, u66, u67, u68, u69, u70, u71, u72, u73, u74, u75, u76, u77, u78, u79, u80, u81, u82, u83, u84, u85, u86, u87, u88, u89, u90, u91, u92, u93, u94, u95, u96, u97, u98, u99, u100, u101, u102, u103, u104, u105, u106, u107, u108, u109, u110, u111, u112, u113, u114, u115, u116, u117, u118, u119, u120, u121, u122, u123, u124, u125, u126, u127, u128, u129, u130, u131, u132, u133, u134, u135, u136, u137, u138, u139, u140, u141, u142, u143, u144, u145, u146, u147, u148, u149, u150, u151, u152, u153, u154, u155, u156, u157, u158, u159, u160, u161, u162, u163, u164, u165, u166, u167, u168, u169, u170, u171, u172, u173, u174, u175, u176, u177, u178, u179, u180, u181, u182, u183, u184, u185, u186, u187, u188, u189, u190, u191, u192, u193, u194, u195, u196, u197, u198, u199, u200, u201, u202, u203, u204, u205, u206, u207, u208, u209, u210, u211, u212, u213, u214, u215], defers := [] } w := by
  dsimp only [Ybad.f3, Option.getD, tl]
  obtain ⟨ex, hx⟩ : ∃ ex, (x && decide (r = 0)) = ex := ⟨_, rfl⟩
  obtain ⟨tot, ht0⟩ : ∃ tot, tsum (clr c (max (l + 1) (now - 59)) (now + 1 - max (l + 1) (now - 59)).toNat) 60 = tot := ⟨_, rfl⟩
  have ht : Hid (tsum (clr c (max (l + 1) (now - 59)) (now + 1 - max (l + 1) (now - 59)).toNat) 60 = tot) := ht0
  have ht2 : Hid (lsum c (mk (l + 1) (now - l).toNat) 60 = tot) := (total_same c l now l1).symm.trans ht0
  clear ht0
  have hx' : Hid ((x && decide (r = 0)) = ex) := hx
  clear hx
  have HH : Hid (Held S Q M B N x0 x2 x3 next inc lo hi cache cy ord next x r c l now w) := H
  clear H
  go_upto_region 28 with fail
  go_cut [16, 17] from 25 (fun s16 s17 wr => ∃ w2 left, s16 = .pointer (some ⟨w2.heap.size, 0, none⟩) ∧ s17 = .nilIface ∧ wr = w2.alloc (.cells #[.int .i64 next, .int .i64 inc, .int .i64 lo, .int .i64 hi, .int .i64 cache, .bool cy, .bool ord, .int .i64 (if ex = true then 0 else next), .bool ex, left, .int .i64 tot] 63) ∧ Hid (K2 Q S w w2) ∧
      Hid ((cy = true ∧ left = .pointer none) ∨ (cy = false ∧ ∃ L, left = .pointer (some ⟨L, 0, none⟩) ∧ w.heap.size ≤ L ∧ BigIs w2 L (if ex = true then 0 else steps inc lo hi next + 1) ∧ (∀ o, w2.frozen? ⟨L, o, none⟩ = false))))
  case first =>
    go_wp2_with fail
    refine (status_s S Q M B N x0 x2 x3 next inc lo hi cache cy ord next x r c l now ex tot w HH.out hx'.out i0 i1 i2 l0 l1 x1 ht).mono ?_
    rintro e w2 ⟨left, rfl, hK, hL⟩
    obtain ⟨p, rfl⟩ : ∃ p, left = .pointer p := by rcases hL with ⟨_, h⟩ | ⟨_, L, h, _⟩ <;> exact ⟨_, h⟩
    have HK : Hid (K2 Q S w w2) := hK
    have HL : Hid ((cy = true ∧ Value.pointer p = .pointer none) ∨ (cy = false ∧ ∃ L, Value.pointer p = .pointer (some ⟨L, 0, none⟩) ∧ w.heap.size ≤ L ∧ BigIs w2 L (if ex = true then 0 else steps inc lo hi next + 1) ∧ (∀ o, w2.frozen? ⟨L, o, none⟩ = false))) := hL
    clear hK hL
    generalize hnx : (if ex = true then 0 else next) = nx at *
    go_wp2_with fail
    go_meet
    subst hnx
    exact ⟨w2, .pointer p, rfl, rfl, rfl, HK, HL⟩
  case rest =>
    obtain ⟨w2, left, rfl, rfl, hw, HK, HL⟩ := hcut
    have hb2 : Below w2.heap.size w2 wc := by rw [hw]; exact Below.alloc (Below.refl _ _) (Nat.le_refl _) _
    have zI : I < w.heap.size := World.block_lt_of_cell? w _ i4
    have zO : O < w.heap.size := World.block_lt_of_cell? w _ o0
    have zC : C < w.heap.size := World.block_lt_of_cell? w _ (hc.out 0 (by omega))
    have zN : N < w.heap.size := World.block_lt_of_cell? w _ HH.out.n0
    have zS : S < w.heap.size := World.block_lt_of_cell? w _ HH.out.s0
    have z2 := HK.out.2.1
    have kk : ∀ b o, b < w.heap.size → b ≠ Q → b ≠ S → wc.cell? ⟨b, o, none⟩ = w.cell? ⟨b, o, none⟩ := fun b o h1 h2 h3 => ((bcell hb2).1 b o (by omega)).trans (HK.out.2.2.1 b o h1 h2 h3)
    refine ‹∀ (a : Act) (w : World), Code.wp Ybad.prog _ _ a w → _› _ _ ?_
    refine tail20 n I w2.heap.size C N O c inc lo hi next l now tot cache cy ord x ex r left W0 wc ((kk I _ zI d1 d2).trans i4) ((kk I _ zI d1 d2).trans i7) ((kk I _ zI d1 d2).trans i8)
      ((kk O _ zO d5 d6).trans o0) ((kk O _ zO d5 d6).trans o1) ((kk O _ zO d5 d6).trans o2) ((kk O _ zO d5 d6).trans o3) ((kk O _ zO d5 d6).trans o4) ((kk O _ zO d5 d6).trans o5) ((kk O _ zO d5 d6).trans o6)
      (by rw [hw]; simp [go_sem]) (by rw [hw]; simp [go_sem]) (by rw [hw]; simp [go_sem]) (by rw [hw]; simp [go_sem]) (by rw [hw]; simp [go_sem]) (by rw [hw]; simp [go_sem]) (by rw [hw]; simp [go_sem]) (by rw [hw]; simp [go_sem]) (by rw [hw]; simp [go_sem]) (by rw [hw]; simp [go_sem]) (by rw [hw]; simp [go_sem])
      ((kk N _ zN (Ne.symm HH.out.qn) (Ne.symm HH.out.sn)).trans HH.out.n0) (fun i hi => (kk C _ zC d3 d4).trans (hc.out i hi)) hx'.out i0 i1 i2 l0 l1 x1 ht2 ?_ ?_ ?_
    · rcases HL.out with h | ⟨h1, L, h2, h3, h4, h5⟩
      · exact .inl h
      · have zL : L < w2.heap.size := World.block_lt_of_cell? w2 _ h4.1
        exact .inr ⟨h1, L, h2, h4.below hb2, fun o => ((bcell hb2).2 L o zL).trans (h5 o)⟩
    · exact hb.out.trans ((HK.out.1.mono (by omega)).trans (hb2.mono (by omega)))
    · have := hb2.size
      omega
end Go.Proofs.YbulkaveaDoor

import Derived.Test.YbulkaveaDoorStatus
import Derived.Test.YbulkaveaDoorPlain
namespace Go.Proofs.YbulkaveaDoor
open Go.RowKit
set_option linter.unusedVariables false
set_option linter.unusedSimpArgs false

/-- What follows the first statement. -/
def tl : Code → Code
  | .seq _ b => b
  | c => c

theorem BigIs.below {w w' : World} {L : Nat} {v : Int} (h : BigIs w L v) (hb : Below w.heap.size w w') : BigIs w' L v := by
  obtain ⟨h0, s, h1, hN⟩ := h
  have zL : L < w.heap.size := World.block_lt_of_cell? w _ h0
  exact ⟨((bcell hb).1 L 0 zL).trans h0, s, ((bcell hb).1 L 1 zL).trans h1, hN.below hb⟩

theorem BigIs.fr {w w' : World} {L : Nat} {v : Int} (h : BigIs w L v) (n : Nat) (hb : Below n w w') (hn : ∀ b o c, w.cell? ⟨b, o, none⟩ = some c → b < n) : BigIs w' L v := by
  obtain ⟨h0, s, h1, hN⟩ := h
  have hk : ∀ b o c, w.cell? ⟨b, o, none⟩ = some c → w'.cell? ⟨b, o, none⟩ = some c := fun b o c h => (hb.cell (p := ⟨b, o, none⟩) (hn b o c h)).trans h
  refine ⟨hk _ _ _ h0, s, hk _ _ _ h1, ?_⟩
  rcases hN with h | ⟨B, c, h1, h2, h3, h4⟩ | ⟨B, c, h1, h2, h3, h4⟩
  · exact .inl h
  · exact .inr (.inl ⟨B, c, h1, h2, h3, hk _ _ _ h4⟩)
  · exact .inr (.inr ⟨B, c, h1, h2, hk _ _ _ h3, hk _ _ _ h4⟩)

set_option maxRecDepth 100000 in
set_option maxHeartbeats 4000000 in
/-- From the comparison of the sums on. -/
theorem tail28 {u0 u2 u7 u8 u9 u10 u11 u12 u13 u14 u15 u17 u19 u20 u22 u23 u24 u25 u26 u27 u28 u29 u30 u31 u32 u33 u34 u35 u36 u37 u38 u39 u40 u41 u42 u43 u44 u45 u46 u47 u48 u49 u50 u51 u52 u53 u54 u55 u56 u57 u58 u59 u60 u61 u62 u63 u64 u65 u66 u67 u68 u69 u70 u71 u72 u73 u74 u75 u76 u77 u78 u79 u80 u81 u82 u83 u84 u85 u86 u87 u88 u89 u90 u91 u92 u93 u94 u95 u96 u97 u98 u99 u100 u101 u102 u103 u104 u105 u106 u107 u108 u109 u110 u111 u112 u113 u114 u115 u116 u117 u118 u119 u120 u121 u122 u123 u124 u125 u126 u127 u128 u129 u130 u131 u132 u133 u134 u135 u136 u137 u138 u139 u140 u141 u142 u143 u144 u145 u146 u147 u148 u149 u150 u151 u152 u153 u154 u155 u156 u157 u158 u159 u160 u161 u162 u163 u164 u165 u166 u167 u168 u169 u170 u171 u172 u173 u174 u175 u176 u177 u178 u179 u180 u181 u182 u183 u184 u185 u186 u187 u188 u189 u190 u191 u192 u193 u194 u195 u196 u197 u198 u199 u200 u201 u202 u203 u204 u205 u206 u207 u208 u209 u210 u211 u212 u213 u214 u215 : Value} (n I T : Nat) (inc lo hi next tot : Int) (cy ex : Bool) (left : Value) (W0 w : World) (i4 : w.cell? ⟨I, 4, none⟩ = some (.bool cy)) (t9 : w.cell? ⟨T, 9, none⟩ = some left) (t10 : w.cell? ⟨T, 10, none⟩ = some (.int .i64 tot))
    (i0 : inc ≠ 0) (i1 : -9223372036854775808 ≤ inc) (i2 : inc ≤ 9223372036854775807)
    (hl : (cy = true ∧ left = .pointer none) ∨ (cy = false ∧ ∃ L, left = .pointer (some ⟨L, 0, none⟩) ∧ BigIs w L (if ex = true then 0 else steps inc lo hi next + 1) ∧ (∀ o, w.frozen? ⟨L, o, none⟩ = false)))
    (hb : Hid (Below n W0 w)) (hn : n ≤ w.heap.size) :
    Code.wp Ybad.prog (tl (tl (tl (tl (tl (tl (tl (tl (tl (tl (tl (tl (tl (tl (tl (tl (tl (tl (tl (tl (tl (tl (tl (tl (tl (tl (tl (tl (Ybad.f3.body.getD .ret))))))))))))))))))))))))))))) (bodyPost Ybad.prog Ybad.f3 fun e w' => e = .returned (.bool true) ∧ Below n W0 w') { tmps := #[u0, .pointer (some ⟨I, 0, none⟩), u2, .int .i64 inc, .int .i64 lo, .int .i64 hi, .int .i64 next, u7, u8, u9, u10, u11, u12, u13, u14, u15, .pointer (some ⟨T, 0, none⟩), u17, .bool ex, u19, u20, .int .i64 tot, u22, u23, u24, u25, u26, u27, u28, u29, u30, u31, u32, u33, u34, u35, u36, u37, u38, u39, u40, u41, u42, u43, u44, u45, u46, u47, u48, u49, u50, u51, u52, u53, u54, u55, u56, u57, u58, u59, u60, u61, u62, u63, u64, u65, u66, u67, u68, u69, u70, u71, u72, u73, u74, u75, u76, u77, u78, u79, u80, u81, u82, u83, u84, u85, u86, u87, u88, u89, u90, u91, u92, u93, u94, u95, u96, u97, u98, u99, u100, u101, u102, u103, u104, u105, u106, u107, u108, u109, u110, u111, u112, u113, u114, u115, u116, u117, u118, u119, u120, u121, u122, u123, u124, u125, u126, u127, u128, u129, u130, u131, u132, u133, u134, u135, u136, u137, u138, u139, u140, u141, u142, u143, u144, u145, u146, u147, u148, u149, u150, u151, u152, u153, u154, u155, u156, u157, u158, u159, u160, u161, u162, u163, u164, u165, u166, u167, u168, u169, u170, u171, u172, u173, u174, u175, u176, u177, u178, u179, u180, u181, u182, u183, u184, u185, u186, u187, u188, u189, u190, u191, u192, u193, u194, u195, u196, u197, u198, u199, u200, u201, u202, u203, u204, u205, u206, u207, u208, u209, u210, u211, u212, u213, u214, u215], defers := [] } w := by
  dsimp only [Ybad.f3, Option.getD, tl]
  rcases hl with ⟨rfl, rfl⟩ | ⟨rfl, L, rfl, hL, fL⟩
  · go_wp2
    go_ret
    exact ⟨rfl, hb.out⟩
  · have HL : Hid (BigIs w L (if ex = true then 0 else steps inc lo hi next + 1)) := hL
    have FL : Hid (∀ o, w.frozen? ⟨L, o, none⟩ = false) := fL
    clear hL fL
    go_upto_if 184 with fail
    have zL : L < w.heap.size := World.block_lt_of_cell? w _ HL.out.1
    have zT : T < w.heap.size := World.block_lt_of_cell? w _ t9
    generalize h1 : w.alloc (.cells #[.bool false, .slice none 0 0] 72) = w1
    have hb1 : Below w.heap.size w w1 := by rw [← h1]; exact Below.alloc (Below.refl _ _) (Nat.le_refl _) _
    have z1 : w.heap.size < w1.heap.size := by rw [← h1]; simp
    have d0 : w1.cell? ⟨w.heap.size, 0, none⟩ = some (.bool false) := by rw [← h1]; simp [go_sem]
    have d1 : w1.cell? ⟨w.heap.size, 1, none⟩ = some (.slice none 0 0) := by rw [← h1]; simp [go_sem]
    have FD : Hid (∀ o, w1.frozen? ⟨w.heap.size, o, none⟩ = false) := fun o => by rw [← h1]; simp [go_sem]
    have t9' : w1.cell? ⟨T, 9, none⟩ = some (.pointer (some ⟨L, 0, none⟩)) := ((bcell hb1).1 T 9 zT).trans t9
    have HB1 : Hid (Below w.heap.size w w1) := hb1
    clear h1 hb1
    generalize hD : w.heap.size = D at *
    cases ex
    case true =>
      go_wp2_with (go_at_call 10; refine (bigcmp_any L D 0 w1 (HL.out.fr D HB1.out (fun b o c h => by rw [← hD]; exact World.block_lt_of_cell? w _ h)) ⟨d0, _, d1, .inl ⟨rfl, rfl⟩⟩ (by omega) (fun o => (HB1.out.frozen (p := ⟨L, o, none⟩) zL).trans (FL.out o)) FD).mono ?_; rintro e w2 ⟨rfl, hb2⟩)
      go_ret
      exact ⟨rfl, hb.out.trans ((HB1.out.trans (hb2.mono (by omega))).mono (by omega))⟩
    case false =>
      go_upto_if 186 with fail
      go_cut [24] from 185 (fun s24 wr => s24 = .int .u64 (steps inc lo hi next) ∧ wr = w1)
      case first =>
        by_cases hp : 0 < inc
        · have n1 : IntKind.u64.wrap inc ≠ 0 := by simp [IntKind.wrap, IntKind.bits, IntKind.signed]; omega
          go_wp2_with fail
          go_meet
          refine ⟨?_, rfl⟩
          simp [steps, hp]
        · have n1 : IntKind.u64.wrap (- IntKind.u64.wrap inc) ≠ 0 := by simp [IntKind.wrap, IntKind.bits, IntKind.signed]; omega
          go_wp2_with fail
          go_meet
          refine ⟨?_, rfl⟩
          simp [steps, show ¬ 0 < inc by omega]
      case rest =>
        obtain ⟨rfl, hw⟩ := hcut
        rw [hw]
        clear hw
        obtain ⟨g0, g1⟩ := steps_range inc lo hi next
        generalize hq : steps inc lo hi next = q at *
        clear hq
        go_wp2_with fail
        refine (setuint_from D q w1 w1 (Below.refl _ _) d0 d1 FD.out g0 g1).mono ?_
        rintro e w2 ⟨rfl, hF2, m0, s2, m1, HW2⟩
        have z2 := hF2.2.1
        have FD2 : Hid (∀ o, w2.frozen? ⟨D, o, none⟩ = false) := fun o => (hF2.2.2.2 D o z1).trans (FD.out o)
        have HF2 : Hid (Fr D w1 w2) := hF2
        clear hF2
        go_wp2_with (go_at_call 9; refine (newint_one _).mono ?_; rintro e w' ⟨rfl, rfl⟩)
        refine (bigadd_from D (w2.heap.size + 1) w2.heap.size s2 q w2 _ (Below.alloc (Below.alloc (Below.refl _ _) (Nat.le_refl _) _) (by simp) _) m0 m1 FD2.out HW2 (by simp [go_sem]) (by simp [go_sem]) (by simp [go_sem])).mono ?_
        rintro e w3 ⟨rfl, hF3, m30, s3, m31, HN3, HB3⟩
        have hB3 : Below D w w3 := (HB1.out.trans HF2.out.1).trans hF3.1
        have t93 : w3.cell? ⟨T, 9, none⟩ = some (.pointer (some ⟨L, 0, none⟩)) := (hB3.cell (p := ⟨T, 9, none⟩) zT).trans t9
        have FD3 : Hid (∀ o, w3.frozen? ⟨D, o, none⟩ = false) := fun o => (hF3.2.2.2 D o (by omega)).trans (FD2.out o)
        have z3 := hF3.2.1
        have HB3' : Hid (Below D w w3) := hB3
        have hL3 : BigIs w3 L (q + 1) := HL.out.fr D hB3 (fun b o c h => by rw [← hD]; exact World.block_lt_of_cell? w _ h)
        have HL3 : Hid (BigIs w3 L (q + 1)) := hL3
        clear hF3 hB3 hL3
        go_wp2_with (go_at_call 10; refine (bigcmp_any L D (q + 1) w3 HL3.out ⟨m30, s3, m31, HN3.out⟩ (by omega) (fun o => (HB3'.out.frozen (p := ⟨L, o, none⟩) zL).trans (FL.out o)) FD3).mono ?_; rintro e w4 ⟨rfl, hb4⟩)
        go_ret
        exact ⟨rfl, hb.out.trans ((HB3'.out.trans (hb4.mono (by omega))).mono (by omega))⟩
end Go.Proofs.YbulkaveaDoor

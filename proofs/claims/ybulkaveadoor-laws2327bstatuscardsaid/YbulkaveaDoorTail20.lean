import Derived.Test.YbulkaveaDoorTail24
namespace Go.Proofs.YbulkaveaDoor
open Go.RowKit
set_option linter.unusedVariables false
set_option linter.unusedSimpArgs false

set_option maxRecDepth 100000 in
set_option maxHeartbeats 4000000 in
/-- From the look at Status's answer on. -/
theorem tail20 {u0 u2 u9 u11 u13 u14 u15 u18 u19 u20 u21 u22 u23 u24 u25 u26 u27 u28 u29 u30 u31 u32 u33 u34 u35 u36 u37 u38 u39 u40 u41 u42 u43 u44 u45 u46 u47 u48 u49 u50 u51 u52 u53 u54 u55 u56 u57 u58 u59 u60 u61 u62 u63 u64 u65 u66 u67 u68 u69 u70 u71 u72 u73 u74 u75 u76 u77 u78 u79 u80 u81 u82 u83 u84 u85 u86 u87 u88 u89 u90 u91 u92 u93 u94 u95 u96 u97 u98 u99 u100 u101 u102 u103 u104 u105 u106 u107 u108 u109 u110 u111 u112 u113 u114 u115 u116 u117 u118 u119 u120 u121 u122 u123 u124 u125 u126 u127 u128 u129 u130 u131 u132 u133 u134 u135 u136 u137 u138 u139 u140 u141 u142 u143 u144 u145 u146 u147 u148 u149 u150 u151 u152 u153 u154 u155 u156 u157 u158 u159 u160 u161 u162 u163 u164 u165 u166 u167 u168 u169 u170 u171 u172 u173 u174 u175 u176 u177 u178 u179 u180 u181 u182 u183 u184 u185 u186 u187 u188 u189 u190 u191 u192 u193 u194 u195 u196 u197 u198 u199 u200 u201 u202 u203 u204 u205 u206 u207 u208 u209 u210 u211 u212 u213 u214 u215 : Value} (n I T C N O : Nat) (c : Nat → Int) (inc lo hi next l now tot cache : Int) (cy ord x ex : Bool) (r : Int) (left : Value) (W0 w : World) (i4 : w.cell? ⟨I, 4, none⟩ = some (.bool cy)) (i7 : w.cell? ⟨I, 7, none⟩ = some (.bool x)) (i8 : w.cell? ⟨I, 8, none⟩ = some (.int .i64 r))
    (o0 : w.cell? ⟨O, 0, none⟩ = some (.int .i64 next)) (o1 : w.cell? ⟨O, 1, none⟩ = some (.int .i64 inc)) (o2 : w.cell? ⟨O, 2, none⟩ = some (.int .i64 lo)) (o3 : w.cell? ⟨O, 3, none⟩ = some (.int .i64 hi)) (o4 : w.cell? ⟨O, 4, none⟩ = some (.int .i64 cache)) (o5 : w.cell? ⟨O, 5, none⟩ = some (.bool cy)) (o6 : w.cell? ⟨O, 6, none⟩ = some (.bool ord))
    (t0 : w.cell? ⟨T, 0, none⟩ = some (.int .i64 next)) (t1 : w.cell? ⟨T, 1, none⟩ = some (.int .i64 inc)) (t2 : w.cell? ⟨T, 2, none⟩ = some (.int .i64 lo)) (t3 : w.cell? ⟨T, 3, none⟩ = some (.int .i64 hi)) (t4 : w.cell? ⟨T, 4, none⟩ = some (.int .i64 cache)) (t5 : w.cell? ⟨T, 5, none⟩ = some (.bool cy)) (t6 : w.cell? ⟨T, 6, none⟩ = some (.bool ord))
    (t7 : w.cell? ⟨T, 7, none⟩ = some (.int .i64 (if ex = true then 0 else next))) (t8 : w.cell? ⟨T, 8, none⟩ = some (.bool ex)) (t9 : w.cell? ⟨T, 9, none⟩ = some left) (t10 : w.cell? ⟨T, 10, none⟩ = some (.int .i64 tot))
    (n0 : w.cell? ⟨N, 0, none⟩ = some (.int .i64 now)) (hc : Hid (∀ i, i < 60 → w.cell? ⟨C, i, none⟩ = some (.int .i64 (c i)))) (hx : (x && decide (r = 0)) = ex)
    (i0 : inc ≠ 0) (i1 : -9223372036854775808 ≤ inc) (i2 : inc ≤ 9223372036854775807) (l0 : 0 ≤ l) (l1 : l ≤ now) (x1 : now ≤ 4294967295) (ht : Hid (lsum c (mk (l + 1) (now - l).toNat) 60 = tot))
    (hl : Hid ((cy = true ∧ left = .pointer none) ∨ (cy = false ∧ ∃ L, left = .pointer (some ⟨L, 0, none⟩) ∧ BigIs w L (if ex = true then 0 else steps inc lo hi next + 1) ∧ (∀ o, w.frozen? ⟨L, o, none⟩ = false))))
    (hb : Hid (Below n W0 w)) (hn : n ≤ w.heap.size) :
    Code.wp Ybad.prog (tl (tl (tl (tl (tl (tl (tl (tl (tl (tl (tl (tl (tl (tl (tl (tl (tl (tl (tl (tl (Ybad.f3.body.getD .ret))))))))))))))))))))) (bodyPost Ybad.prog Ybad.f3 fun e w' => e = .returned (.bool true) ∧ Below n W0 w') { tmps := #[u0, .pointer (some ⟨I, 0, none⟩), u2, .int .i64 inc, .int .i64 lo, .int .i64 hi, .int .i64 next, .pointer (some ⟨O, 0, none⟩), .pointer (some ⟨C, 0, none⟩), u9, .pointer (some ⟨N, 0, none⟩), u11, .int .i64 l, u13, u14, u15, .pointer (some ⟨T, 0, none⟩), .nilIface, u18, u19, u20, u21, u22, u23, u24, u25, u26, u27, u28, u29, u30, u31, u32, u33, u34, u35, u36, u37, u38, u39, u40, u41, u42, u43, u44, u45, u46, u47, u48, u49, u50, u51, u52, u53, u54, u55, u56, u57, u58, u59, u60, u61, u62, u63, u64, u65, u66, u67, u68, u69, u70, u71, u72, u73, u74, u75, u76, u77, u78, u79, u80, u81, u82, u83, u84, u85, u86, u87, u88, u89, u90, u91, u92, u93, u94, u95, u96, u97, u98, u99, u100, u101, u102, u103, u104, u105, u106, u107, u108, u109, u110, u111, u112, u113, u114, u115, u116, u117, u118, u119, u120, u121, u122, u123, u124, u125, u126, u127, u128, u129, u130, u131, u132, u133, u134, u135, u136, u137, u138, u139, u140, u141, u142, u143, u144, u145, u146, u147, u148, u149, u150, u151, u152, u153, u154, u155, u156, u157, u158, u159, u160, u161, u162, u163, u164, u165, u166, u167, u168, u169, u170, u171, u172, u173, u174, u175, u176, u177, u178, u179, u180, u181, u182, u183, u184, u185, u186, u187, u188, u189, u190, u191, u192, u193, u194, u195, u196, u197, u198, u199, u200, u201, u202, u203, u204, u205, u206, u207, u208, u209, u210, u211, u212, u213, u214, u215], defers := [] } w := by
  dsimp only [Ybad.f3, Option.getD, tl]
  go_upto_region 31 with fail
  go_cut [18] from 25 (fun s18 wr => s18 = .bool ex ∧ wr = w)
  case first =>
    cases x
    · have e1 : ex = false := by simpa using hx.symm
      subst e1
      go_wp2_with fail
      go_meet
      exact ⟨rfl, rfl⟩
    · have e1 : decide (r = 0) = ex := by simpa using hx
      go_wp2_with fail
      go_meet
      exact ⟨by rw [← e1]; rfl, rfl⟩
  case rest =>
    obtain ⟨rfl, hw⟩ := hcut
    rw [hw]
    clear hw
    go_upto_if 139 with fail
    go_cut [2] from 25 (fun s2 wr => wr = w)
    case first =>
      cases ex
      · go_wp2_with fail
        go_meet
        exact rfl
      · go_wp2_with fail
        go_meet
        exact rfl
    case rest =>
      have hw := hcut
      rw [hw]
      clear hw hcut
      refine ‹∀ (a : Act) (w : World), Code.wp Ybad.prog _ _ a w → _› _ _ ?_
      exact tail24 n I T C N c inc lo hi next l now tot cy ex left W0 w i4 t9 t10 n0 hc i0 i1 i2 l0 l1 x1 ht hl hb hn
end Go.Proofs.YbulkaveaDoor

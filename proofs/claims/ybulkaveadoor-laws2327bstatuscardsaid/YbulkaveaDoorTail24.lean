import Derived.Test.YbulkaveaDoorTail
import Derived.Deep.CutBlock
namespace Go.Proofs.YbulkaveaDoor
open Go.RowKit
set_option linter.unusedVariables false
set_option linter.unusedSimpArgs false

set_option maxRecDepth 100000 in
set_option maxHeartbeats 4000000 in
/-- From the making of the law's marks on. -/
theorem tail24 {u0 u2 u7 u9 u11 u13 u14 u15 u17 u19 u20 u21 u22 u23 u24 u25 u26 u27 u28 u29 u30 u31 u32 u33 u34 u35 u36 u37 u38 u39 u40 u41 u42 u43 u44 u45 u46 u47 u48 u49 u50 u51 u52 u53 u54 u55 u56 u57 u58 u59 u60 u61 u62 u63 u64 u65 u66 u67 u68 u69 u70 u71 u72 u73 u74 u75 u76 u77 u78 u79 u80 u81 u82 u83 u84 u85 u86 u87 u88 u89 u90 u91 u92 u93 u94 u95 u96 u97 u98 u99 u100 u101 u102 u103 u104 u105 u106 u107 u108 u109 u110 u111 u112 u113 u114 u115 u116 u117 u118 u119 u120 u121 u122 u123 u124 u125 u126 u127 u128 u129 u130 u131 u132 u133 u134 u135 u136 u137 u138 u139 u140 u141 u142 u143 u144 u145 u146 u147 u148 u149 u150 u151 u152 u153 u154 u155 u156 u157 u158 u159 u160 u161 u162 u163 u164 u165 u166 u167 u168 u169 u170 u171 u172 u173 u174 u175 u176 u177 u178 u179 u180 u181 u182 u183 u184 u185 u186 u187 u188 u189 u190 u191 u192 u193 u194 u195 u196 u197 u198 u199 u200 u201 u202 u203 u204 u205 u206 u207 u208 u209 u210 u211 u212 u213 u214 u215 : Value} (n I T C N : Nat) (c : Nat → Int) (inc lo hi next l now tot : Int) (cy ex : Bool) (left : Value) (W0 w : World) (i4 : w.cell? ⟨I, 4, none⟩ = some (.bool cy)) (t9 : w.cell? ⟨T, 9, none⟩ = some left) (t10 : w.cell? ⟨T, 10, none⟩ = some (.int .i64 tot))
    (n0 : w.cell? ⟨N, 0, none⟩ = some (.int .i64 now)) (hc : Hid (∀ i, i < 60 → w.cell? ⟨C, i, none⟩ = some (.int .i64 (c i))))
    (i0 : inc ≠ 0) (i1 : -9223372036854775808 ≤ inc) (i2 : inc ≤ 9223372036854775807) (l0 : 0 ≤ l) (l1 : l ≤ now) (x1 : now ≤ 4294967295) (ht : Hid (lsum c (mk (l + 1) (now - l).toNat) 60 = tot))
    (hl : Hid ((cy = true ∧ left = .pointer none) ∨ (cy = false ∧ ∃ L, left = .pointer (some ⟨L, 0, none⟩) ∧ BigIs w L (if ex = true then 0 else steps inc lo hi next + 1) ∧ (∀ o, w.frozen? ⟨L, o, none⟩ = false))))
    (hb : Hid (Below n W0 w)) (hn : n ≤ w.heap.size) :
    Code.wp Ybad.prog (tl (tl (tl (tl (tl (tl (tl (tl (tl (tl (tl (tl (tl (tl (tl (tl (tl (tl (tl (tl (tl (tl (tl (tl (Ybad.f3.body.getD .ret))))))))))))))))))))))))) (bodyPost Ybad.prog Ybad.f3 fun e w' => e = .returned (.bool true) ∧ Below n W0 w') { tmps := #[u0, .pointer (some ⟨I, 0, none⟩), u2, .int .i64 inc, .int .i64 lo, .int .i64 hi, .int .i64 next, u7, .pointer (some ⟨C, 0, none⟩), u9, .pointer (some ⟨N, 0, none⟩), u11, .int .i64 l, u13, u14, u15, .pointer (some ⟨T, 0, none⟩), u17, .bool ex, u19, u20, u21, u22, u23, u24, u25, u26, u27, u28, u29, u30, u31, u32, u33, u34, u35, u36, u37, u38, u39, u40, u41, u42, u43, u44, u45, u46, u47, u48, u49, u50, u51, u52, u53, u54, u55, u56, u57, u58, u59, u60, u61, u62, u63, u64, u65, u66, u67, u68, u69, u70, u71, u72, u73, u74, u75, u76, u77, u78, u79, u80, u81, u82, u83, u84, u85, u86, u87, u88, u89, u90, u91, u92, u93, u94, u95, u96, u97, u98, u99, u100, u101, u102, u103, u104, u105, u106, u107, u108, u109, u110, u111, u112, u113, u114, u115, u116, u117, u118, u119, u120, u121, u122, u123, u124, u125, u126, u127, u128, u129, u130, u131, u132, u133, u134, u135, u136, u137, u138, u139, u140, u141, u142, u143, u144, u145, u146, u147, u148, u149, u150, u151, u152, u153, u154, u155, u156, u157, u158, u159, u160, u161, u162, u163, u164, u165, u166, u167, u168, u169, u170, u171, u172, u173, u174, u175, u176, u177, u178, u179, u180, u181, u182, u183, u184, u185, u186, u187, u188, u189, u190, u191, u192, u193, u194, u195, u196, u197, u198, u199, u200, u201, u202, u203, u204, u205, u206, u207, u208, u209, u210, u211, u212, u213, u214, u215], defers := [] } w := by
  dsimp only [Ybad.f3, Option.getD, tl]
  have zI : I < w.heap.size := World.block_lt_of_cell? w _ i4
  have zT : T < w.heap.size := World.block_lt_of_cell? w _ t9
  have zN : N < w.heap.size := World.block_lt_of_cell? w _ n0
  have zC : C < w.heap.size := World.block_lt_of_cell? w _ (hc.out 0 (by omega))
  go_upto_region 39 with fail
  go_cut [19] from 25 (fun s19 wr => s19 = .pointer (some ⟨w.heap.size, 0, none⟩) ∧ wr = w.alloc (.cells (Array.replicate 60 (.bool false)) 68))
  case first =>
    go_wp2_with fail
    go_meet
    exact ⟨rfl, rfl⟩
  case rest =>
    obtain ⟨rfl, hw⟩ := hcut
    have hbc : Below w.heap.size w wc := by rw [hw]; exact Below.alloc (Below.refl _ _) (Nat.le_refl _) _
    have zc : wc.heap.size = w.heap.size + 1 := by rw [hw]; simp
    have ha : Hid (∀ i, i < 60 → wc.cell? ⟨w.heap.size, i, none⟩ = some (.bool (mk (l + 1) 0 i))) := by
      intro i hi
      rw [hw]
      simp [go_sem, mk, hi]
    have fa : Hid (∀ o, wc.frozen? ⟨w.heap.size, o, none⟩ = false) := fun o => by rw [hw]; simp [go_sem]
    clear hw
    have HBC : Hid (Below w.heap.size w wc) := hbc
    have nc : wc.cell? ⟨N, 0, none⟩ = some (.int .i64 now) := ((bcell hbc).1 N 0 zN).trans n0
    clear hbc
    go_upto_block 2 with fail
    generalize hA : w.heap.size = A at *
    go_cut [20] from 149 (fun s20 wr => Hid (∀ i, i < 60 → wr.cell? ⟨A, i, none⟩ = some (.bool (mk (l + 1) (now - l).toNat i))) ∧ Hid (Below A w wr) ∧ wr.heap.size = A + 1)
    case first =>
      go_wp2_with fail
      go_loopw [20] (fun s20 wr => ∃ k : Nat, (k : Int) ≤ now - l ∧ s20 = .int .i64 (l + 1 + k) ∧ Hid (∀ i, i < 60 → wr.cell? ⟨A, i, none⟩ = some (.bool (mk (l + 1) k i))) ∧ Hid (∀ o, wr.frozen? ⟨A, o, none⟩ = false) ∧ Hid (Below A w wr) ∧ wr.heap.size = A + 1) (fun s20 _ => (now + 1 - intOf s20).toNat)
      case atStart => exact ⟨0, by omega, by simp, ha, fa, HBC, zc⟩
      case round =>
        obtain ⟨k, hk, rfl, Ha, Fa, Hb, hz⟩ := hrel
        have nr : wr.cell? ⟨N, 0, none⟩ = some (.int .i64 now) := (Hb.out.cell (p := ⟨N, 0, none⟩) zN).trans n0
        clear nc
        by_cases hlt : l + 1 + k ≤ now
        · obtain ⟨j, hj⟩ : ∃ j : Nat, (l + 1 + k) % 60 = (j : Int) := ⟨((l + 1 + k) % 60).toNat, by omega⟩
          have hj6 : j < 60 := by omega
          have hcj : wr.cell? ⟨A, j, none⟩ = some (.bool (mk (l + 1) k j)) := Ha.out j hj6
          have hfj : wr.frozen? ⟨A, j, none⟩ = false := Fa.out j
          have Ha' : Hid (∀ i, i < 60 → (wr.setCell ⟨A, j, none⟩ (.bool true)).cell? ⟨A, i, none⟩ = some (.bool (mk (l + 1) (k + 1) i))) := by
            intro i hi
            by_cases hij : i = j
            · subst hij
              rw [World.cell?_setCell_same _ _ _ hcj]
              simp [mk, hj]
            · rw [World.cell?_setCell_other _ _ _ _ (by intro he; injection he with _ e2 _; omega), Ha.out i hi]
              simp [mk, hj, hij]
          clear Ha
          go_wp2_with fail
          go_roundw
          case rel => exact ⟨k + 1, by omega, by simp; omega, Ha', fun o => by simpa using Fa.out o, Below.setCell Hb.out (Nat.le_refl _) _, by simpa using hz⟩
          case measure => simp [intOf]; omega
        · have hk' : k = (now - l).toNat := by omega
          have Hk : Hid (k = (now - l).toNat) := hk'
          clear hk'
          go_wp2_with fail
          go_meet
          exact ⟨by rw [← Hk.out]; exact Ha, Hb, hz⟩
    case rest =>
      obtain ⟨Ha, Hb, hz⟩ := hcut
      clear ha fa HBC nc zc
      obtain ⟨W4, hW4⟩ : ∃ W4, W4 = wc := ⟨_, rfl⟩
      rw [← hW4] at Ha Hb hz ⊢
      clear hW4
      have Hc4 : Hid (∀ i, i < 60 → W4.cell? ⟨C, i, none⟩ = some (.int .i64 (c i))) := fun i hi => (Hb.out.cell (p := ⟨C, i, none⟩) zC).trans (hc.out i hi)
      generalize hm : mk (l + 1) (now - l).toNat = m at *
      go_upto_block 4 with fail
      go_cut [21, 22] from 157 (fun s21 s22 wr => s21 = .int .i64 tot ∧ wr = W4)
      case first =>
        go_wp2_with fail
        go_loop [21, 22] (fun s21 s22 => ∃ k : Nat, k ≤ 60 ∧ s22 = .int .i64 k ∧ s21 = .int .i64 (lsum c m k)) (fun _ s22 => 60 - (intOf s22).toNat)
        case atStart => exact ⟨0, by omega, rfl, rfl⟩
        case round =>
          obtain ⟨k, hk, rfl, rfl⟩ := hrel
          by_cases hlt : k < 60
          · have h1 := Ha.out k hlt
            have h2 := Hc4.out k hlt
            by_cases hmk : m k = true
            · rw [hmk] at h1
              go_wp2_with fail
              go_round
              case rel => exact ⟨k + 1, by omega, by simp, by simp [lsum, hmk]⟩
              case measure => simp [intOf]; omega
            · have hmf : m k = false := by simpa using hmk
              rw [hmf] at h1
              go_wp2_with fail
              go_round
              case rel => exact ⟨k + 1, by omega, by simp, by simp [lsum, hmf]⟩
              case measure => simp [intOf]; omega
          · have hk' : k = 60 := by omega
            subst hk'
            have Ht : Hid (lsum c m 60 = tot) := ht
            go_wp2_with fail
            go_meet
            exact ⟨by rw [Ht.out], rfl⟩
      case rest =>
        obtain ⟨rfl, hw⟩ := hcut
        rw [hw]
        clear hw
        refine ‹∀ (a : Act) (w : World), Code.wp Ybad.prog _ _ a w → _› _ _ ?_
        refine tail28 n I T inc lo hi next tot cy ex left W0 W4 ((Hb.out.cell (p := ⟨I, 4, none⟩) zI).trans i4) ((Hb.out.cell (p := ⟨T, 9, none⟩) zT).trans t9) ((Hb.out.cell (p := ⟨T, 10, none⟩) zT).trans t10) i0 i1 i2 ?_ (hb.out.trans (Hb.out.mono (by omega))) (by omega)
        rcases hl.out with h | ⟨h1, L, h2, h3, h4⟩
        · exact .inl h
        · have zL : L < A := by rw [← hA]; exact World.block_lt_of_cell? w _ h3.1
          exact .inr ⟨h1, L, h2, h3.fr A Hb.out (fun b o c h => by rw [← hA]; exact World.block_lt_of_cell? w _ h), fun o => (Hb.out.frozen (p := ⟨L, o, none⟩) zL).trans (h4 o)⟩
end Go.Proofs.YbulkaveaDoor

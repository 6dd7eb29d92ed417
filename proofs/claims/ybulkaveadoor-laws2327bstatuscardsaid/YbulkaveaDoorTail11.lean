import Derived.Test.YbulkaveaDoorTail16
namespace Go.Proofs.YbulkaveaDoor
open Go.RowKit
set_option linter.unusedVariables false
set_option linter.unusedSimpArgs false

/-- The first k counts as given, the others 0. -/
def ctk (xs : Nat → Int) (k i : Nat) : Int := if i < k then xs i else 0

set_option maxRecDepth 100000 in
set_option maxHeartbeats 1000000 in
theorem tail11 {u0 u2 u9 u10 u11 u12 u13 u14 u15 u16 u17 u18 u19 u20 u21 u22 u23 u24 u25 u26 u27 u28 u29 u30 u31 u32 u33 u34 u35 u36 u37 u38 u39 u40 u41 u42 u43 u44 u45 u46 u47 u48 u49 u50 u51 u52 u53 u54 u55 u56 u57 u58 u59 u60 u61 u62 u63 u64 u65 u66 u67 u68 u69 u70 u71 u72 u73 u74 u75 u76 u77 u78 u79 u80 u81 u82 u83 u84 u85 u86 u87 u88 u89 u90 u91 u92 u93 u94 u95 u96 u97 u98 u99 u100 u101 u102 u103 u104 u105 u106 u107 u108 u109 u110 u111 u112 u113 u114 u115 u116 u117 u118 u119 u120 u121 u122 u123 u124 u125 u126 u127 u128 u129 u130 u131 u132 u133 u134 u135 u136 u137 u138 u139 u140 u141 u142 u143 u144 u145 u146 u147 u148 u149 u150 u151 u152 u153 u154 u155 u156 u157 u158 u159 u160 u161 u162 u163 u164 u165 u166 u167 u168 u169 u170 u171 u172 u173 u174 u175 u176 u177 u178 u179 u180 u181 u182 u183 u184 u185 u186 u187 u188 u189 u190 u191 u192 u193 u194 u195 u196 u197 u198 u199 u200 u201 u202 u203 u204 u205 u206 u207 u208 u209 u210 u211 u212 u213 u214 u215 : Value} (n I C O : Nat) (inc lo hi next cache : Int) (cy ord x : Bool) (r : Int) (a0 : Option Addr) (len cap : Nat) (xs : Nat → Int) (sec gap : Int) (W0 w : World)
    (i4 : w.cell? ⟨I, 4, none⟩ = some (.bool cy)) (i7 : w.cell? ⟨I, 7, none⟩ = some (.bool x)) (i8 : w.cell? ⟨I, 8, none⟩ = some (.int .i64 r)) (i9 : w.cell? ⟨I, 9, none⟩ = some (.slice a0 len cap)) (i10 : w.cell? ⟨I, 10, none⟩ = some (.int .u32 sec)) (i11 : w.cell? ⟨I, 11, none⟩ = some (.int .u8 gap))
    (o0 : w.cell? ⟨O, 0, none⟩ = some (.int .i64 next)) (o1 : w.cell? ⟨O, 1, none⟩ = some (.int .i64 inc)) (o2 : w.cell? ⟨O, 2, none⟩ = some (.int .i64 lo)) (o3 : w.cell? ⟨O, 3, none⟩ = some (.int .i64 hi)) (o4 : w.cell? ⟨O, 4, none⟩ = some (.int .i64 cache)) (o5 : w.cell? ⟨O, 5, none⟩ = some (.bool cy)) (o6 : w.cell? ⟨O, 6, none⟩ = some (.bool ord))
    (hc : Hid (∀ i, i < 60 → w.cell? ⟨C, i, none⟩ = some (.int .i64 0))) (fc : Hid (∀ o, w.frozen? ⟨C, o, none⟩ = false))
    (hs : Hid (∀ i, i < len → ∃ g p, a0 = some ⟨g, p, none⟩ ∧ w.cell? ⟨g, p + i, none⟩ = some (.int .i64 (xs i)) ∧ g ≠ C))
    (hl : len ≤ 1024) (hcap : len ≤ cap) (j0 : inc ≠ 0) (j1 : -9223372036854775808 ≤ inc) (j2 : inc ≤ 9223372036854775807) (s0 : 0 ≤ sec) (s1 : sec ≤ 4294967295) (g0 : 0 ≤ gap) (g1 : gap ≤ 255)
    (dI : I ≠ C) (dO : O ≠ C) (hb : Hid (Below n W0 w)) (hn : Hid (n ≤ C)) :
    Code.wp Ybad.prog (tl (tl (tl (tl (tl (tl (tl (tl (tl (tl (tl (Ybad.f3.body.getD .ret)))))))))))) (bodyPost Ybad.prog Ybad.f3 fun e w' => e = .returned (.bool true) ∧ Below n W0 w') { tmps := #[u0, .pointer (some ⟨I, 0, none⟩), u2, .int .i64 inc, .int .i64 lo, .int .i64 hi, .int .i64 next, .pointer (some ⟨O, 0, none⟩), .pointer (some ⟨C, 0, none⟩), u9, u10, u11, u12, u13, u14, u15, u16, u17, u18, u19, u20, u21, u22, u23, u24, u25, u26, u27, u28, u29, u30, u31, u32, u33, u34, u35, u36, u37, u38, u39, u40, u41, u42, u43, u44, u45, u46, u47, u48, u49, u50, u51, u52, u53, u54, u55, u56, u57, u58, u59, u60, u61, u62, u63, u64, u65, u66, u67, u68, u69, u70, u71, u72, u73, u74, u75, u76, u77, u78, u79, u80, u81, u82, u83, u84, u85, u86, u87, u88, u89, u90, u91, u92, u93, u94, u95, u96, u97, u98, u99, u100, u101, u102, u103, u104, u105, u106, u107, u108, u109, u110, u111, u112, u113, u114, u115, u116, u117, u118, u119, u120, u121, u122, u123, u124, u125, u126, u127, u128, u129, u130, u131, u132, u133, u134, u135, u136, u137, u138, u139, u140, u141, u142, u143, u144, u145, u146, u147, u148, u149, u150, u151, u152, u153, u154, u155, u156, u157, u158, u159, u160, u161, u162, u163, u164, u165, u166, u167, u168, u169, u170, u171, u172, u173, u174, u175, u176, u177, u178, u179, u180, u181, u182, u183, u184, u185, u186, u187, u188, u189, u190, u191, u192, u193, u194, u195, u196, u197, u198, u199, u200, u201, u202, u203, u204, u205, u206, u207, u208, u209, u210, u211, u212, u213, u214, u215], defers := [] } w := by
  dsimp only [Ybad.f3, Option.getD, tl]
  have HO : Hid (w.cell? ⟨O, 0, none⟩ = some (.int .i64 next) ∧ w.cell? ⟨O, 1, none⟩ = some (.int .i64 inc) ∧ w.cell? ⟨O, 2, none⟩ = some (.int .i64 lo) ∧ w.cell? ⟨O, 3, none⟩ = some (.int .i64 hi) ∧ w.cell? ⟨O, 4, none⟩ = some (.int .i64 cache) ∧ w.cell? ⟨O, 5, none⟩ = some (.bool cy) ∧ w.cell? ⟨O, 6, none⟩ = some (.bool ord)) := ⟨o0, o1, o2, o3, o4, o5, o6⟩
  clear o0 o1 o2 o3 o4 o5 o6
  go_upto_block 0 with fail
  go_cut [9] from 63 (fun s9 wr => ∃ k : Nat, Hid (∀ i, i < 60 → wr.cell? ⟨C, i, none⟩ = some (.int .i64 (ctk xs k i))) ∧ Hid (∀ b o, b ≠ C → wr.cell? ⟨b, o, none⟩ = w.cell? ⟨b, o, none⟩) ∧ Hid (Below n w wr) ∧ Hid (wr.heap.size = w.heap.size))
  case first =>
    go_wp2_with fail
    go_loopw [9] (fun s9 wr => ∃ k : Nat, k ≤ 60 ∧ s9 = .int .i64 (k : Int) ∧ Hid (∀ i, i < 60 → wr.cell? ⟨C, i, none⟩ = some (.int .i64 (ctk xs k i))) ∧ Hid (∀ b o, b ≠ C → wr.cell? ⟨b, o, none⟩ = w.cell? ⟨b, o, none⟩) ∧ Hid (Below n w wr) ∧ Hid (wr.heap.size = w.heap.size) ∧ Hid (∀ o, wr.frozen? ⟨C, o, none⟩ = false)) (fun s9 _ => (60 - intOf s9).toNat)
    case atStart => exact ⟨0, by omega, rfl, fun i h => by simpa [ctk] using hc.out i h, fun _ _ _ => rfl, Below.refl _ _, rfl, fc⟩
    case round =>
      obtain ⟨k, hk, rfl, Hc, Ho, Hb, Hz, Hf⟩ := hrel
      by_cases h1 : k < len
      · by_cases h2 : k < 60
        · obtain ⟨g, p, e1, e2, e3⟩ := hs.out k h1
          have v9 : wr.cell? ⟨I, 9, none⟩ = some (.slice (some ⟨g, p, none⟩) len cap) := by rw [Ho.out I 9 dI, i9, e1]
          have vg : wr.cell? ⟨g, p + k, none⟩ = some (.int .i64 (xs k)) := (Ho.out g _ e3).trans e2
          have vc : wr.cell? ⟨C, k, none⟩ = some (.int .i64 (ctk xs k k)) := Hc.out k h2
          have vf : wr.frozen? ⟨C, k, none⟩ = false := Hf.out k
          have Hc' : Hid (∀ i, i < 60 → (wr.setCell ⟨C, k, none⟩ (.int .i64 (xs k))).cell? ⟨C, i, none⟩ = some (.int .i64 (ctk xs (k + 1) i))) := by
            intro i hi
            by_cases hij : i = k
            · subst hij
              rw [World.cell?_setCell_same _ _ _ vc]
              simp [ctk]
            · rw [World.cell?_setCell_other _ _ _ _ (by intro he; injection he with _ e2 _; omega), Hc.out i hi]
              have : (i < k + 1) = (i < k) := by simp; omega
              simp only [ctk, this]
          clear Hc i9 e2
          go_wp2_with fail
          go_roundw
          case rel => exact ⟨k + 1, by omega, by simp, Hc', fun b o hbo => by rw [World.cell?_setCell_other _ _ _ _ (by intro he; injection he with e1 _ _; exact hbo e1.symm)]; exact Ho.out b o hbo, Below.setCell Hb.out hn.out _, by unfold Hid; have := Hz.out; simpa using this, fun o => by simpa using Hf.out o⟩
          case measure => simp [intOf]; omega
        · have v9 : wr.cell? ⟨I, 9, none⟩ = some (.slice a0 len cap) := (Ho.out I 9 dI).trans i9
          go_wp2_with fail
          go_meet
          exact ⟨k, Hc, Ho, Hb, Hz⟩
      · have v9 : wr.cell? ⟨I, 9, none⟩ = some (.slice a0 len cap) := (Ho.out I 9 dI).trans i9
        go_wp2_with fail
        go_meet
        exact ⟨k, Hc, Ho, Hb, Hz⟩
  case rest =>
    obtain ⟨k, Hc, Ho, Hb, Hz⟩ := hcut
    obtain ⟨w4, hw4⟩ : ∃ w4, w4 = wc := ⟨_, rfl⟩
    rw [← hw4] at Hc Ho Hb Hz ⊢
    clear hw4
    have v10 : w4.cell? ⟨I, 10, none⟩ = some (.int .u32 sec) := (Ho.out I 10 dI).trans i10
    have v11 : w4.cell? ⟨I, 11, none⟩ = some (.int .u8 gap) := (Ho.out I 11 dI).trans i11
    have zI : I < w4.heap.size := World.block_lt_of_cell? w4 _ v10
    go_upto_if 89 with fail
    go_cut [11] from 25 (fun s11 wr => ∃ g : Int, s11 = .int .i64 g ∧ 0 ≤ g ∧ g ≤ sec ∧ wr = w4.alloc (.cells #[.int .i64 sec] 2))
    case first =>
      by_cases hg : sec < gap
      · go_wp2_with fail
        go_meet
        exact ⟨sec, rfl, by omega, by omega, rfl⟩
      · go_wp2_with fail
        go_meet
        exact ⟨gap, rfl, by omega, by omega, rfl⟩
    case rest =>
      obtain ⟨g, rfl, q0, q1, hw⟩ := hcut
      have hb5 : Hid (Below w4.heap.size w4 wc) := by rw [hw]; exact Below.alloc (Below.refl _ _) (Nat.le_refl _) _
      have hz5 : Hid (wc.heap.size = w4.heap.size + 1) := by unfold Hid; rw [hw]; simp [go_sem]
      have n5 : wc.cell? ⟨w4.heap.size, 0, none⟩ = some (.int .i64 sec) := by rw [hw]; simp [go_sem]
      obtain ⟨w5, hw5⟩ : ∃ w5, w5 = wc := ⟨_, rfl⟩
      rw [← hw5] at hb5 hz5 n5 ⊢
      clear hw hw5
      go_upto_region 24 with fail
      go_cut [12] from 25 (fun s12 wr => s12 = .int .i64 (sec - g) ∧ wr = w5)
      case first =>
        go_wp2_with fail
        go_meet
        exact ⟨rfl, rfl⟩
      case rest =>
        obtain ⟨rfl, hw⟩ := hcut
        rw [hw]
        clear hw
        obtain ⟨o0, o1, o2, o3, o4, o5, o6⟩ := HO.out
        have e1 := Hz.out
        have e2 := hz5.out
        have e3 := hn.out
        have zO : O < w.heap.size := World.block_lt_of_cell? w _ o0
        have zC : C < w.heap.size := World.block_lt_of_cell? w _ (hc.out 0 (by omega))
        have kk : ∀ b o, b < w.heap.size → b ≠ C → w5.cell? ⟨b, o, none⟩ = w.cell? ⟨b, o, none⟩ := fun b o h1 h2 => ((bcell hb5.out).1 b o (by omega)).trans (Ho.out b o h2)
        have zI' : I < w.heap.size := World.block_lt_of_cell? w _ i4
        refine ‹∀ (a : Act) (w : World), Code.wp Ybad.prog _ _ a w → _› _ _ ?_
        exact tail16 n I C w4.heap.size O (ctk xs k) inc lo hi next (sec - g) sec cache cy ord x r W0 w5 ((kk I _ zI' dI).trans i4) ((kk I _ zI' dI).trans i7) ((kk I _ zI' dI).trans i8)
          ((kk O _ zO dO).trans o0) ((kk O _ zO dO).trans o1) ((kk O _ zO dO).trans o2) ((kk O _ zO dO).trans o3) ((kk O _ zO dO).trans o4) ((kk O _ zO dO).trans o5) ((kk O _ zO dO).trans o6)
          (fun i h => ((bcell hb5.out).1 C i (by omega)).trans (Hc.out i h)) n5 j0 j1 j2 (by omega) (by omega) s1 (hb.out.trans (Hb.out.trans (hb5.out.mono (by omega)))) (by unfold Hid; omega)
end Go.Proofs.YbulkaveaDoor

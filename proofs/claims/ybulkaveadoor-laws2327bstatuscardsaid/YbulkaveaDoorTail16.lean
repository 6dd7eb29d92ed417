import Derived.Test.YbulkaveaDoorTail19
import Derived.Great.BuildSlice
import Derived.Deep.WholeRow
namespace Go.Proofs.YbulkaveaDoor
open Go.RowKit
set_option linter.unusedVariables false
set_option linter.unusedSimpArgs false

theorem heap_alloc_lt (w : World) (o : Obj) (k : Nat) (h : k < w.heap.size) : (w.alloc o).heap[k]? = w.heap[k]? := by
  show (w.heap.push o)[k]? = _
  rw [Array.getElem?_push, if_neg (by omega)]
theorem heap_alloc_size (w : World) (o : Obj) : (w.alloc o).heap.size = w.heap.size + 1 := by
  show (w.heap.push o).size = _
  simp

theorem put_new (w : World) (v : Value) : (Instr.mapUpdate 47 (.map (some w.heap.size)) (.string ⟨#[115]⟩) v).run Ybad.prog (w.alloc (.map #[] 0)) = .ok () (w.alloc (.map #[⟨.string ⟨#[115]⟩, v, 0⟩] 1)) := by
  rw [put_s _ _ v (heap_alloc_last w _)]
  have h : (w.heap.push (.map #[] 0)).setIfInBounds w.heap.size (.map #[⟨.string ⟨#[115]⟩, v, 0⟩] 1) = w.heap.push (.map #[⟨.string ⟨#[115]⟩, v, 0⟩] 1) := by
    apply Array.ext_getElem?
    intro i
    rw [Array.getElem?_setIfInBounds]
    by_cases h : w.heap.size = i
    · subst h
      simp
    · have h' : ¬ i = w.heap.size := fun e => h e.symm
      simp [h, h', Array.getElem?_push]
  show Result.ok () { w with heap := (w.heap.push (.map #[] 0)).setIfInBounds w.heap.size (.map #[⟨.string ⟨#[115]⟩, v, 0⟩] 1) } = _
  rw [h]
  rfl

/-- The sequence's cells ahead of the counts. -/
def seqPre (next inc lo hi cache : Int) (cy ord x : Bool) (r : Int) : List Value :=
  [.int .i32 0, .int .u32 0, .int .i64 next, .int .i64 inc, .int .i64 lo, .int .i64 hi, .int .i64 cache, .bool cy, .bool ord, .int .i64 next, .bool x, .bool false, .int .i64 0, .bool false, .int .i64 r]
/-- The cells behind them. -/
def seqPost (l : Int) : List Value := [.int .i64 l, .int .u64 0, .int .u64 0, .int .i64 0, .pointer none]

set_option maxRecDepth 100000 in
theorem built33 (c : Nat → Int) (l : Int) : Ybad.prog.built 33 [(0, Value.agg (cnt c).toArray), (1, Value.int .i64 l)] = some (cnt c ++ [Value.int .i64 l]).toArray := by kernel_rfl
set_option maxRecDepth 100000 in
theorem built45 (next inc lo hi cache : Int) (cy ord x : Bool) (r l : Int) (c : Nat → Int) :
    Ybad.prog.built 45 [(1, Value.agg #[.int .i64 next, .int .i64 inc, .int .i64 lo, .int .i64 hi, .int .i64 cache, .bool cy, .bool ord, .int .i64 next, .bool x, .bool false, .int .i64 0, .bool false]), (2, Value.int .i64 r), (3, Value.agg (cnt c ++ [Value.int .i64 l]).toArray)]
      = some (seqPre next inc lo hi cache cy ord x r ++ cnt c ++ seqPost l).toArray := by kernel_rfl

theorem cnt_range0 (c : Nat → Int) (C : Nat) (w : World) (h : ∀ i, i < 60 → w.cell? ⟨C, i, none⟩ = some (.int .i64 (c i))) : w.rangeAt C 0 (cnt c) := by
  intro j v hj
  have hl : j < 60 := by
    have := (List.getElem?_eq_some_iff.1 hj).1
    rwa [cnt_len] at this
  rw [cnt_at c j hl] at hj
  rw [Nat.zero_add, h j hl]; exact hj

set_option maxRecDepth 100000 in
set_option maxHeartbeats 4000000 in
theorem tail16 {u0 u2 u9 u11 u13 u14 u15 u16 u17 u18 u19 u20 u21 u22 u23 u24 u25 u26 u27 u28 u29 u30 u31 u32 u33 u34 u35 u36 u37 u38 u39 u40 u41 u42 u43 u44 u45 u46 u47 u48 u49 u50 u51 u52 u53 u54 u55 u56 u57 u58 u59 u60 u61 u62 u63 u64 u65 u66 u67 u68 u69 u70 u71 u72 u73 u74 u75 u76 u77 u78 u79 u80 u81 u82 u83 u84 u85 u86 u87 u88 u89 u90 u91 u92 u93 u94 u95 u96 u97 u98 u99 u100 u101 u102 u103 u104 u105 u106 u107 u108 u109 u110 u111 u112 u113 u114 u115 u116 u117 u118 u119 u120 u121 u122 u123 u124 u125 u126 u127 u128 u129 u130 u131 u132 u133 u134 u135 u136 u137 u138 u139 u140 u141 u142 u143 u144 u145 u146 u147 u148 u149 u150 u151 u152 u153 u154 u155 u156 u157 u158 u159 u160 u161 u162 u163 u164 u165 u166 u167 u168 u169 u170 u171 u172 u173 u174 u175 u176 u177 u178 u179 u180 u181 u182 u183 u184 u185 u186 u187 u188 u189 u190 u191 u192 u193 u194 u195 u196 u197 u198 u199 u200 u201 u202 u203 u204 u205 u206 u207 u208 u209 u210 u211 u212 u213 u214 u215 : Value} (n I C N O : Nat) (c : Nat → Int) (inc lo hi next l now cache : Int) (cy ord x : Bool) (r : Int) (W0 w : World)
    (i4 : w.cell? ⟨I, 4, none⟩ = some (.bool cy)) (i7 : w.cell? ⟨I, 7, none⟩ = some (.bool x)) (i8 : w.cell? ⟨I, 8, none⟩ = some (.int .i64 r))
    (o0 : w.cell? ⟨O, 0, none⟩ = some (.int .i64 next)) (o1 : w.cell? ⟨O, 1, none⟩ = some (.int .i64 inc)) (o2 : w.cell? ⟨O, 2, none⟩ = some (.int .i64 lo)) (o3 : w.cell? ⟨O, 3, none⟩ = some (.int .i64 hi)) (o4 : w.cell? ⟨O, 4, none⟩ = some (.int .i64 cache)) (o5 : w.cell? ⟨O, 5, none⟩ = some (.bool cy)) (o6 : w.cell? ⟨O, 6, none⟩ = some (.bool ord))
    (hc : Hid (∀ i, i < 60 → w.cell? ⟨C, i, none⟩ = some (.int .i64 (c i)))) (n0 : w.cell? ⟨N, 0, none⟩ = some (.int .i64 now))
    (j0 : inc ≠ 0) (j1 : -9223372036854775808 ≤ inc) (j2 : inc ≤ 9223372036854775807) (l0 : 0 ≤ l) (l1 : l ≤ now) (x1 : now ≤ 4294967295) (hb : Hid (Below n W0 w)) (hn : Hid (n ≤ w.heap.size)) :
    Code.wp Ybad.prog (tl (tl (tl (tl (tl (tl (tl (tl (tl (tl (tl (tl (tl (tl (tl (tl (Ybad.f3.body.getD .ret))))))))))))))))) (bodyPost Ybad.prog Ybad.f3 fun e w' => e = .returned (.bool true) ∧ Below n W0 w') { tmps := #[u0, .pointer (some ⟨I, 0, none⟩), u2, .int .i64 inc, .int .i64 lo, .int .i64 hi, .int .i64 next, .pointer (some ⟨O, 0, none⟩), .pointer (some ⟨C, 0, none⟩), u9, .pointer (some ⟨N, 0, none⟩), u11, .int .i64 l, u13, u14, u15, u16, u17, u18, u19, u20, u21, u22, u23, u24, u25, u26, u27, u28, u29, u30, u31, u32, u33, u34, u35, u36, u37, u38, u39, u40, u41, u42, u43, u44, u45, u46, u47, u48, u49, u50, u51, u52, u53, u54, u55, u56, u57, u58, u59, u60, u61, u62, u63, u64, u65, u66, u67, u68, u69, u70, u71, u72, u73, u74, u75, u76, u77, u78, u79, u80, u81, u82, u83, u84, u85, u86, u87, u88, u89, u90, u91, u92, u93, u94, u95, u96, u97, u98, u99, u100, u101, u102, u103, u104, u105, u106, u107, u108, u109, u110, u111, u112, u113, u114, u115, u116, u117, u118, u119, u120, u121, u122, u123, u124, u125, u126, u127, u128, u129, u130, u131, u132, u133, u134, u135, u136, u137, u138, u139, u140, u141, u142, u143, u144, u145, u146, u147, u148, u149, u150, u151, u152, u153, u154, u155, u156, u157, u158, u159, u160, u161, u162, u163, u164, u165, u166, u167, u168, u169, u170, u171, u172, u173, u174, u175, u176, u177, u178, u179, u180, u181, u182, u183, u184, u185, u186, u187, u188, u189, u190, u191, u192, u193, u194, u195, u196, u197, u198, u199, u200, u201, u202, u203, u204, u205, u206, u207, u208, u209, u210, u211, u212, u213, u214, u215], defers := [] } w := by
  dsimp only [Ybad.f3, Option.getD, tl]
  go_upto_region 25 with fail
  go_cut [13] from 25 (fun s13 wr => s13 = .pointer (some ⟨w.heap.size, 0, none⟩) ∧ wr = w.alloc (.cells (seqPre next inc lo hi cache cy ord x r ++ (cnt c ++ seqPost l)).toArray 45))
  case first =>
    have HD : Hid (w.rangeAt C 0 (cnt c)) := cnt_range0 c C w hc.out
    have hlen := cnt_len c
    go_wp2_with (first | (refine wpList_load_mid rfl 28 _ rfl C 0 (by kernel_rfl) (cnt c) _ HD.out Ybad.underlying28 rfl (by rw [cnt_len]; kernel_rfl) ?_) | (refine wpList_buildTo rfl 33 _ rfl (some 103) rfl (cnt c ++ [Value.int .i64 l]).toArray (by kernel_rfl) ?_) | (refine wpList_buildTo rfl 45 _ rfl (some 104) rfl (seqPre next inc lo hi cache cy ord x r ++ cnt c ++ seqPost l).toArray (by kernel_rfl) ?_))
    go_meet
    exact ⟨rfl, rfl⟩
  case rest =>
    obtain ⟨rfl, hw⟩ := hcut
    have hb1 : Hid (Below w.heap.size w wc) := by rw [hw]; exact Below.alloc (Below.refl _ _) (Nat.le_refl _) _
    have hz1 : Hid (wc.heap.size = w.heap.size + 1) := by unfold Hid; rw [hw]; simp [go_sem]
    have hq1 : Hid (∀ k v, (seqPre next inc lo hi cache cy ord x r ++ (cnt c ++ seqPost l))[k]? = some v → wc.cell? ⟨w.heap.size, k, none⟩ = some v) := by
      unfold Hid
      intro k v hk
      rw [hw]
      simp [go_sem]
      exact hk
    have hf1 : Hid (∀ o, wc.frozen? ⟨w.heap.size, o, none⟩ = false) := by
      unfold Hid
      intro o
      rw [hw]
      simp [go_sem]
    obtain ⟨w1, hw1⟩ : ∃ w1, w1 = wc := ⟨_, rfl⟩
    rw [← hw1] at hb1 hz1 hq1 hf1 ⊢
    clear hw hw1
    obtain ⟨Q, hQ⟩ : ∃ Q, Q = w.heap.size := ⟨_, rfl⟩
    rw [← hQ] at hb1 hz1 hq1 hf1 ⊢
    have HQ : Hid (Q = w.heap.size) := hQ
    clear hQ
    go_upto_region 26 with fail
    go_cut [14] from 25 (fun s14 wr => s14 = .pointer (some ⟨w1.heap.size, 0, none⟩) ∧ wr = w1.alloc (.cells #[.int .u64 0, .int .i64 0, .pointer none] 43))
    case first =>
      go_wp2_with fail
      go_meet
      exact ⟨rfl, rfl⟩
    case rest =>
      obtain ⟨rfl, hw⟩ := hcut
      have hb2 : Hid (Below w1.heap.size w1 wc) := by rw [hw]; exact Below.alloc (Below.refl _ _) (Nat.le_refl _) _
      have hz2 : Hid (wc.heap.size = w1.heap.size + 1) := by unfold Hid; rw [hw]; simp [go_sem]
      have b0 : wc.cell? ⟨w1.heap.size, 0, none⟩ = some (.int .u64 0) := by rw [hw]; simp [go_sem]
      have b1 : wc.cell? ⟨w1.heap.size, 1, none⟩ = some (.int .i64 0) := by rw [hw]; simp [go_sem]
      have b2 : wc.cell? ⟨w1.heap.size, 2, none⟩ = some (.pointer none) := by rw [hw]; simp [go_sem]
      obtain ⟨w2, hw2⟩ : ∃ w2, w2 = wc := ⟨_, rfl⟩
      rw [← hw2] at hb2 hz2 b0 b1 b2 ⊢
      clear hw hw2
      obtain ⟨B, hB⟩ : ∃ B, B = w1.heap.size := ⟨_, rfl⟩
      rw [← hB] at hb2 hz2 b0 b1 b2 ⊢
      have HB : Hid (B = w1.heap.size) := hB
      clear hB
      have hput : (Instr.mapUpdate 47 (.map (some w2.heap.size)) (.string ⟨#[115]⟩) (.pointer (some ⟨Q, 0, none⟩))).run Ybad.prog (w2.alloc (.map #[] 0)) = .ok () (w2.alloc (.map #[⟨.string ⟨#[115]⟩, .pointer (some ⟨Q, 0, none⟩), 0⟩] 1)) := by
        exact put_new w2 _
      have hmk : ∀ (t : TypeId) (w : World), (Instr.makeMap t none).run Ybad.prog w = .ok (.map (some w.heap.size)) (w.alloc (.map #[] 0)) := fun _ _ => rfl
      have hmf : ∀ fn first cap w, (Instr.makeFunc fn first cap).run Ybad.prog w = .ok (.func fn first cap) w := fun _ _ _ _ => rfl
      have zB : B < w2.heap.size := World.block_lt_of_cell? w2 _ b0
      go_upto_region 27 with fail
      go_cut [15] from 25 (fun s15 wr => s15 = .pointer (some ⟨w2.heap.size + 1 + 1, 0, none⟩) ∧ wr = ((w2.alloc (.map #[⟨.string ⟨#[115]⟩, .pointer (some ⟨Q, 0, none⟩), 0⟩] 1)).alloc (.map #[] 0)).alloc (.cells #[.int .i32 0, .int .u32 0, .int .u32 0, .int .u32 0, .int .i32 0, .int .i32 0, .map (some w2.heap.size), .map (some (w2.heap.size + 1)), .int .u64 0, .bool false, .pointer none, .nilFunc, .int .i64 0, .int .u64 0, .int .u64 0, .int .i64 0, .pointer none, .func (.func 4) #[] #[.pointer (some ⟨B, 0, none⟩), .pointer (some ⟨N, 0, none⟩)]] 60))
      case first =>
        go_wp2_with fail
        go_meet
        exact ⟨rfl, rfl⟩
      case rest =>
        obtain ⟨rfl, hw⟩ := hcut
        have hm0 : wc.heap[w2.heap.size]? = some (.map #[⟨.string ⟨#[115]⟩, .pointer (some ⟨Q, 0, none⟩), 0⟩] 1) := by
          rw [hw, heap_alloc_lt _ _ _ (by simp only [heap_alloc_size]; omega), heap_alloc_lt _ _ _ (by simp only [heap_alloc_size]; omega), heap_alloc_last]
        have hb3 : Below w2.heap.size w2 wc := by
          rw [hw]
          exact Below.alloc (Below.alloc (Below.alloc (Below.refl _ _) (Nat.le_refl _) _) (by simp only [heap_alloc_size]; omega) _) (by simp only [heap_alloc_size]; omega) _
        have e1 := HQ.out
        have e2 := hz1.out
        have e3 := HB.out
        have e4 := hz2.out
        have e5 := hn.out
        have zI : I < w.heap.size := World.block_lt_of_cell? w _ i4
        have zO : O < w.heap.size := World.block_lt_of_cell? w _ o0
        have zC : C < w.heap.size := World.block_lt_of_cell? w _ (hc.out 0 (by omega))
        have zN : N < w.heap.size := World.block_lt_of_cell? w _ n0
        have g1 : Below w.heap.size w w1 := e1 ▸ hb1.out
        have g2 : Below w1.heap.size w1 w2 := e3 ▸ hb2.out
        have k2 : ∀ o, wc.cell? ⟨Q, o, none⟩ = w1.cell? ⟨Q, o, none⟩ := fun o => ((bcell hb3).1 Q o (by omega)).trans ((bcell g2).1 Q o (by omega))
        have kk : ∀ b o, b < w.heap.size → wc.cell? ⟨b, o, none⟩ = w.cell? ⟨b, o, none⟩ := fun b o h => ((bcell hb3).1 b o (by omega)).trans (((bcell g2).1 b o (by omega)).trans ((bcell g1).1 b o h))
        have hq := hq1.out
        have hqc : ∀ i, i < 60 → (seqPre next inc lo hi cache cy ord x r ++ (cnt c ++ seqPost l))[15 + i]? = some (.int .i64 (c i)) := by
          intro i h
          rw [List.getElem?_append_right (by simp [seqPre]), List.getElem?_append_left (by rw [cnt_len]; simp [seqPre]; omega)]
          have : 15 + i - (seqPre next inc lo hi cache cy ord x r).length = i := by simp [seqPre]
          rw [this]
          exact cnt_at c i h
        have hq75 : (seqPre next inc lo hi cache cy ord x r ++ (cnt c ++ seqPost l))[75]? = some (.int .i64 l) := by
          rw [List.getElem?_append_right (by simp [seqPre]), List.getElem?_append_right (by rw [cnt_len]; simp [seqPre])]
          simp [seqPre, cnt_len, seqPost]
        refine ‹∀ (a : Act) (w : World), Code.wp Ybad.prog _ _ a w → _› _ _ ?_
        refine tail19 n I C N O (w2.heap.size + 1 + 1) Q w2.heap.size B (.int .i32 0) (.int .u32 0) (.int .u32 0) c inc lo hi next l now cache cy ord x r W0 wc ?_
          ((kk I _ zI).trans i4) ((kk I _ zI).trans i7) ((kk I _ zI).trans i8) ((kk O _ zO).trans o0) ((kk O _ zO).trans o1) ((kk O _ zO).trans o2) ((kk O _ zO).trans o3) ((kk O _ zO).trans o4) ((kk O _ zO).trans o5) ((kk O _ zO).trans o6)
          (fun i h => (kk C _ zC).trans (hc.out i h)) j0 j1 j2 l0 l1 x1 (by omega) (by omega) (by omega) (by omega) (by omega) (by omega)
          (hb.out.trans ((g1.mono e5).trans ((g2.mono (by omega)).trans (hb3.mono (by omega))))) (by omega) (by omega)
        exact {
          s0 := by rw [hw]; simp [go_sem]
          s2 := by rw [hw]; simp [go_sem]
          s3 := by rw [hw]; simp [go_sem]
          s4 := by rw [hw]; simp [go_sem]
          s6 := by rw [hw]; simp [go_sem]
          s9 := by rw [hw]; simp [go_sem]
          s14 := by rw [hw]; simp [go_sem]
          s15 := by rw [hw]; simp [go_sem]
          s16 := by rw [hw]; simp [go_sem]
          s17 := by rw [hw]; simp [go_sem]
          b0 := ((bcell hb3).1 B _ zB).trans b0
          b1 := ((bcell hb3).1 B _ zB).trans b1
          b2 := ((bcell hb3).1 B _ zB).trans b2
          n0 := (kk N _ zN).trans n0
          q0 := (k2 _).trans (hq _ _ rfl)
          q2 := (k2 _).trans (hq _ _ rfl)
          q3 := (k2 _).trans (hq _ _ rfl)
          q4 := (k2 _).trans (hq _ _ rfl)
          q5 := (k2 _).trans (hq _ _ rfl)
          q6 := (k2 _).trans (hq _ _ rfl)
          q7 := (k2 _).trans (hq _ _ rfl)
          q8 := (k2 _).trans (hq _ _ rfl)
          q9 := (k2 _).trans (hq _ _ rfl)
          q10 := (k2 _).trans (hq _ _ rfl)
          q14 := (k2 _).trans (hq _ _ rfl)
          qc := fun i h => (k2 _).trans (hq _ _ (hqc i h))
          q75 := (k2 _).trans (hq _ _ hq75)
          fs := by rw [hw]; simp [go_sem]
          fq := fun o => ((bcell hb3).2 Q o (by omega)).trans (((bcell g2).2 Q o (by omega)).trans (hf1.out o))
          hm := ⟨_, _, hm0⟩
          sq := by omega
          sb := by omega
          sn := by omega
          qb := by omega
          qn := by omega }
end Go.Proofs.YbulkaveaDoor

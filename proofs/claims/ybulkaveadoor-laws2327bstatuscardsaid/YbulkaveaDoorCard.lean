import Derived.Test.YbulkaveaDoorLaw
import Derived.Test.YbulkaveaDoorTie
import Derived.Test.YbulkaveaDoorCards
import Derived.ProofKit
import Derived.OpenShut
import Derived.OpenVars
import Derived.LaidMore
import Derived.Lay
import Derived.Lib.LaidTab
import Derived.SevenTiedAt
namespace Go.Proofs.YbulkaveaDoor
open Go.ChangeShapes Go.WideShapes Go.ChangeAt Go.RowKit

theorem own : ownKnob Ybad.prog.godebug = none := by kernel_rfl
theorem laidOut : laidOutB Ybad.prog = true := by kernel_rfl
theorem cells25 : Ybad.prog.cellsOf 25 = 12 := by kernel_rfl
theorem cells2 : Ybad.prog.cellsOf 2 = 1 := by kernel_rfl
theorem cells4 : Ybad.prog.cellsOf 4 = 1 := by kernel_rfl
theorem cells22 : Ybad.prog.cellsOf 22 = 1 := by kernel_rfl
theorem cells23 : Ybad.prog.cellsOf 23 = 1 := by kernel_rfl
theorem cells5 : Ybad.prog.cellsOf 5 = 1 := by kernel_rfl

theorem wfi64 {n : Int} (h : (Lit.int .i64 n).wf = true) : -9223372036854775808 ≤ n ∧ n ≤ 9223372036854775807 := by
  simp [Lit.wf, IntKind.min, IntKind.max, IntKind.signed, IntKind.bits] at h
  omega
theorem wfu32 {n : Int} (h : (Lit.int .u32 n).wf = true) : 0 ≤ n ∧ n ≤ 4294967295 := by
  simp [Lit.wf, IntKind.min, IntKind.max, IntKind.signed, IntKind.bits] at h
  omega
theorem wfu8 {n : Int} (h : (Lit.int .u8 n).wf = true) : 0 ≤ n ∧ n ≤ 255 := by
  simp [Lit.wf, IntKind.min, IntKind.max, IntKind.signed, IntKind.bits] at h
  omega

theorem plain_addr {w : World} {x : Addr} {v : Value} (h : w.cell? x = some v) : x = ⟨x.block, x.off, none⟩ := by
  obtain ⟨b, o, s⟩ := x
  cases s with
  | none => rfl
  | some k =>
    unfold World.cell? at h
    split at h
    · simp at h
    · cases h

theorem add_plain (b o i : Nat) : (⟨b, o, none⟩ : Addr).add i = ⟨b, o + i, none⟩ := by
  unfold Addr.add
  by_cases h : i = 0
  · subst h; rfl
  · rw [if_neg h]

theorem array12 {α : Type} {cs : Array α} (h : cs.size = 12) : ∃ c0 c1 c2 c3 c4 c5 c6 c7 c8 c9 c10 c11, cs = #[c0, c1, c2, c3, c4, c5, c6, c7, c8, c9, c10, c11] := by
  obtain ⟨l⟩ := cs
  match l, h with
  | [c0, c1, c2, c3, c4, c5, c6, c7, c8, c9, c10, c11], _ => exact ⟨c0, c1, c2, c3, c4, c5, c6, c7, c8, c9, c10, c11, rfl⟩

set_option maxRecDepth 100000 in
/-- The law's argument, opened. -/
theorem open25 {H : Type} {enc : TypeId × Value → H} {W : World} {base b0 : Nat} {rc : Reach} {held : Bool} {v : Value} {d : DataW H} {p : List MemPlace} (hv : Value.okWide Ybad.prog W rc b0 25 v) (h : DataW.Trod enc Ybad.prog W base (fun _ => true) held 25 v d p) :
    ∃ (inc0 mn mx cache : Int) (cy ord : Bool) (next0 : Int) (x : Bool) (r : Int) (a0 : Option Addr) (len cap : Nat) (sec gap : Int) (xs : Nat → Int),
      v = .agg #[.int .i64 inc0, .int .i64 mn, .int .i64 mx, .int .i64 cache, .bool cy, .bool ord, .int .i64 next0, .bool x, .int .i64 r, .slice a0 len cap, .int .u32 sec, .int .u8 gap] ∧ -9223372036854775808 ≤ inc0 ∧ inc0 ≤ 9223372036854775807 ∧
      (∀ i, i < len → ∃ g p, a0 = some ⟨g, p, none⟩ ∧ W.cell? ⟨g, p + i, none⟩ = some (.int .i64 (xs i))) ∧ len ≤ cap ∧ 0 ≤ sec ∧ sec ≤ 4294967295 ∧ 0 ≤ gap ∧ gap ≤ 255 := by
  obtain ⟨cs, rfl, hsz⟩ := okWide_struct Ybad.underlying25 hv
  rw [cells25] at hsz
  obtain ⟨c0, c1, c2, c3, c4, c5, c6, c7, c8, c9, c10, c11, rfl⟩ := array12 hsz
  obtain ⟨fuel, hf⟩ := h
  obtain ⟨ys, n, _, _, _, hlen, hfl⟩ := DataW.trod_struct Ybad.underlying25 hf
  have hy : ∀ i, i < 12 → ∃ y, ys[i]? = some y := fun i hi => ⟨ys[i]'(by rw [hlen]; exact hi), List.getElem?_eq_getElem _⟩
  obtain ⟨y0, e0⟩ := hy 0 (by omega)
  obtain ⟨y1, e1⟩ := hy 1 (by omega)
  obtain ⟨y2, e2⟩ := hy 2 (by omega)
  obtain ⟨y3, e3⟩ := hy 3 (by omega)
  obtain ⟨y4, e4⟩ := hy 4 (by omega)
  obtain ⟨y5, e5⟩ := hy 5 (by omega)
  obtain ⟨y6, e6⟩ := hy 6 (by omega)
  obtain ⟨y7, e7⟩ := hy 7 (by omega)
  obtain ⟨y8, e8⟩ := hy 8 (by omega)
  obtain ⟨y9, e9⟩ := hy 9 (by omega)
  obtain ⟨y10, e10⟩ := hy 10 (by omega)
  obtain ⟨y11, e11⟩ := hy 11 (by omega)
  have t0 : DataW.trod enc Ybad.prog W base (fun _ => true) held n 2 (([c0, c1, c2, c3, c4, c5, c6, c7, c8, c9, c10, c11].drop 0).take (Ybad.prog.cellsOf 2)) = some y0 := (hfl 0 _ rfl).trans e0
  have t1 : DataW.trod enc Ybad.prog W base (fun _ => true) held n 2 (([c0, c1, c2, c3, c4, c5, c6, c7, c8, c9, c10, c11].drop 1).take (Ybad.prog.cellsOf 2)) = some y1 := (hfl 1 _ rfl).trans e1
  have t2 : DataW.trod enc Ybad.prog W base (fun _ => true) held n 2 (([c0, c1, c2, c3, c4, c5, c6, c7, c8, c9, c10, c11].drop 2).take (Ybad.prog.cellsOf 2)) = some y2 := (hfl 2 _ rfl).trans e2
  have t3 : DataW.trod enc Ybad.prog W base (fun _ => true) held n 2 (([c0, c1, c2, c3, c4, c5, c6, c7, c8, c9, c10, c11].drop 3).take (Ybad.prog.cellsOf 2)) = some y3 := (hfl 3 _ rfl).trans e3
  have t4 : DataW.trod enc Ybad.prog W base (fun _ => true) held n 4 (([c0, c1, c2, c3, c4, c5, c6, c7, c8, c9, c10, c11].drop 4).take (Ybad.prog.cellsOf 4)) = some y4 := (hfl 4 _ rfl).trans e4
  have t5 : DataW.trod enc Ybad.prog W base (fun _ => true) held n 4 (([c0, c1, c2, c3, c4, c5, c6, c7, c8, c9, c10, c11].drop 5).take (Ybad.prog.cellsOf 4)) = some y5 := (hfl 5 _ rfl).trans e5
  have t6 : DataW.trod enc Ybad.prog W base (fun _ => true) held n 2 (([c0, c1, c2, c3, c4, c5, c6, c7, c8, c9, c10, c11].drop 6).take (Ybad.prog.cellsOf 2)) = some y6 := (hfl 6 _ rfl).trans e6
  have t7 : DataW.trod enc Ybad.prog W base (fun _ => true) held n 4 (([c0, c1, c2, c3, c4, c5, c6, c7, c8, c9, c10, c11].drop 7).take (Ybad.prog.cellsOf 4)) = some y7 := (hfl 7 _ rfl).trans e7
  have t8 : DataW.trod enc Ybad.prog W base (fun _ => true) held n 2 (([c0, c1, c2, c3, c4, c5, c6, c7, c8, c9, c10, c11].drop 8).take (Ybad.prog.cellsOf 2)) = some y8 := (hfl 8 _ rfl).trans e8
  have t9 : DataW.trod enc Ybad.prog W base (fun _ => true) held n 22 (([c0, c1, c2, c3, c4, c5, c6, c7, c8, c9, c10, c11].drop 9).take (Ybad.prog.cellsOf 22)) = some y9 := (hfl 9 _ rfl).trans e9
  have t10 : DataW.trod enc Ybad.prog W base (fun _ => true) held n 23 (([c0, c1, c2, c3, c4, c5, c6, c7, c8, c9, c10, c11].drop 10).take (Ybad.prog.cellsOf 23)) = some y10 := (hfl 10 _ rfl).trans e10
  have t11 : DataW.trod enc Ybad.prog W base (fun _ => true) held n 5 (([c0, c1, c2, c3, c4, c5, c6, c7, c8, c9, c10, c11].drop 11).take (Ybad.prog.cellsOf 5)) = some y11 := (hfl 11 _ rfl).trans e11
  rw [cells2] at t0 t1 t2 t3 t6 t8
  rw [cells4] at t4 t5 t7
  rw [cells22] at t9
  rw [cells23] at t10
  rw [cells5] at t11
  obtain ⟨inc0, f0, _, w0⟩ := DataW.trod_int Ybad.underlying2 t0
  obtain ⟨mn, f1, _, _⟩ := DataW.trod_int Ybad.underlying2 t1
  obtain ⟨mx, f2, _, _⟩ := DataW.trod_int Ybad.underlying2 t2
  obtain ⟨cache, f3, _, _⟩ := DataW.trod_int Ybad.underlying2 t3
  obtain ⟨cy, f4, _⟩ := DataW.trod_bool Ybad.underlying4 t4
  obtain ⟨ord, f5, _⟩ := DataW.trod_bool Ybad.underlying4 t5
  obtain ⟨next0, f6, _, _⟩ := DataW.trod_int Ybad.underlying2 t6
  obtain ⟨x, f7, _⟩ := DataW.trod_bool Ybad.underlying4 t7
  obtain ⟨r, f8, _, _⟩ := DataW.trod_int Ybad.underlying2 t8
  have f9 := open_ints Ybad.underlying22 Ybad.underlying2 cells2 t9
  obtain ⟨sec, f10, _, w10⟩ := DataW.trod_int Ybad.underlying23 t10
  obtain ⟨gap, f11, _, w11⟩ := DataW.trod_int Ybad.underlying5 t11
  clear hfl hf hlen hy t0 t1 t2 t3 t4 t5 t6 t7 t8 t9 t10 t11
  simp only [List.drop_succ_cons, List.drop_zero, List.take_succ_cons, List.take_zero, List.cons.injEq, and_true] at f0 f1 f2 f3 f4 f5 f6 f7 f8 f9 f10 f11
  obtain rfl := f0
  obtain rfl := f1
  obtain rfl := f2
  obtain rfl := f3
  obtain rfl := f4
  obtain rfl := f5
  obtain rfl := f6
  obtain rfl := f7
  obtain rfl := f8
  obtain rfl := f10
  obtain rfl := f11
  rcases f9 with ⟨rfl, _⟩ | ⟨a, len, cap, zs, rfl, _, hl, _, hz, _, hc, _⟩
  · exact ⟨inc0, mn, mx, cache, cy, ord, next0, x, r, none, 0, 0, sec, gap, fun _ => 0, rfl, (wfi64 w0).1, (wfi64 w0).2, fun i hi => by omega, by omega, (wfu32 w10).1, (wfu32 w10).2, (wfu8 w11).1, (wfu8 w11).2⟩
  · refine ⟨inc0, mn, mx, cache, cy, ord, next0, x, r, some a, len, cap, sec, gap, fun i => zs.getD i 0, rfl, (wfi64 w0).1, (wfi64 w0).2, fun i hi => ?_, hl, (wfu32 w10).1, (wfu32 w10).2, (wfu8 w11).1, (wfu8 w11).2⟩
    have hz' : zs.length = cap := by simpa using hz
    have hx : a = ⟨a.block, a.off, none⟩ := by
      have := hc 0 (by omega)
      rw [show a.add 0 = a from rfl] at this
      exact plain_addr this
    have := hc i (by omega)
    rw [hx, add_plain] at this
    exact ⟨a.block, a.off, congrArg some hx, this⟩

set_option maxRecDepth 100000 in
theorem status_lifted (os : Os) (started : os.Started) (H : Type) (enc : TypeId × Value → H) :
    ReturnsInHanded {} Ybad.checked os 3 .any (fun w args => (Rows.lawS2327BStatusSpec.pre enc Ybad.prog Ybad.f3 [] false w args ∧ laidMetH Ybad.prog Rows.lawS2327BStatusRow.laid w) ∧ sizedMet enc Ybad.prog Ybad.f3 (OpenSpec.ofChange Rows.lawS2327BStatusSpec) false w args)
      (Rows.lawS2327BStatusSpec.post enc Ybad.prog Ybad.f3 false true false false) := by
  refine returnsInHanded_of_change_and (C := Ybad.checked) (X := fun w _ => laidMetH Ybad.prog Rows.lawS2327BStatusRow.laid w) (fun _ _ _ hh h => h.of_heap hh) own started (by kernel_rfl) Ybad.func3
    (ChangeSpec.witness_shaped (enc := enc) (C := Ybad.checked) (os := os) (X := fun w _ => laidMetH Ybad.prog Rows.lawS2327BStatusRow.laid w) false (World.laidAll Ybad.prog os Rows.lawS2327BStatusRow.laid) #[.agg #[.int .i64 0, .int .i64 0, .int .i64 0, .int .i64 0, .bool false, .bool false, .int .i64 0, .bool false, .int .i64 0, .slice none 0 0, .int .u32 0, .int .u8 0]] 8 (World.laidAll_os _ _ _) (World.shaped_of_ZipB (by kernel_rfl) (by kernel_rfl)) (by kernel_rfl) (by kernel_rfl) (by kernel_rfl)
      (by rw [MakeChecks.laidMetH_plain _ _ _ (by kernel_rfl)]; exact laidMet_laidAll _ (by kernel_rfl) (by kernel_rfl))) ?_
  intro W base args ds gs before hval0 hW _ _ hL _
  have hval : ∀ (j : Nat) t v, Ybad.f3.params[j]? = some t → args[j]? = some v → Value.okWide Ybad.prog W .any base t v := hval0
  have hW' := hW
  obtain ⟨p, q, hA0, hV, rfl, hfz, hnd⟩ := hW
  have hA : DataW.TrodAll enc Ybad.prog W 0 (fun _ => true) true Ybad.f3.params.toList args.toList ds p := hA0
  rw [Ybad.params3] at hA hval
  obtain ⟨v0, vs0, d0, ds0, p0, q0, hargs, rfl, rfl, h0, r0⟩ := trodAll_cons hA
  obtain ⟨rfl, rfl, rfl⟩ := trodAll_nil r0
  obtain rfl : args = #[v0] := by cases args; simp_all
  have k0 := h0
  have lt0 : ∀ x ∈ p0, x.block < W.heap.size := by obtain ⟨m, hm⟩ := k0; exact DataW.trod_lt m _ _ _ hm
  obtain ⟨inc0, mn, mx, cache, cy, ord, next0, x, r, a0, len, cap, sec, gap, xs, rfl, j0, j1, hs, hcap, s0, s1, g0, g1⟩ := open25 (hval 0 25 v0 rfl rfl) h0
  obtain ⟨gv, rfl⟩ : ∃ gv, gs = [gv] := by
    match gs, hV with
    | [gv], _ => exact ⟨gv, rfl⟩
  refine (law_any inc0 mn mx cache cy ord next0 x r a0 len cap sec gap xs W j0 j1 hs hcap s0 s1 g0 g1).mono fun e W' ⟨he, bel⟩ => ?_
  subst he
  exact ⟨_, rfl, _, _, _, [], _, _, hW', trodAll_mk1 (shut_bool Ybad.underlying4 _), (trodAll_cons_mk (Below.trod laidOut (by kernel_rfl) (of_decide_eq_true (by kernel_rfl)) k0 bel lt0) trodAll_mk0), bel.trodVars laidOut (by kernel_rfl) hV, bel.frame _, fun h => by cases h⟩

set_option maxRecDepth 100000 in
theorem status_holds : Rows.LawS2327BStatusSaid :=
  OpenClaim.holds_of_wide 3 Ybad.f3 rfl rfl rfl rfl rfl rfl rfl ⟨rfl, rfl, rfl, rfl, rfl⟩ rfl rfl rfl rfl rfl (by kernel_rfl) Ybad.func3 (by kernel_rfl)
    (of_decide_eq_true (by kernel_rfl)) (by unfold Func.isWrapper; first | (rw [if_pos (by decide +kernel)]; kernel_rfl) | (rw [if_neg (by decide +kernel)]; exact ⟨rfl, rfl⟩))
    (fun os started H enc _ => status_lifted os started H enc)

/-- THE STATEMENT: THE TIED CARD. -/
theorem status_card : Rows.LawS2327BStatusCardSaid :=
  Claim7.holds_tied_plain_at .later [] [.sentinel] true Rows.lawS2327BStatusCard.stood.harness false
    status_holds (fun _ h => by cases h) (by kernel_rfl) (fun _ h => by cases h) lawS2327BStatus_row_tie rfl ⟨rfl, rfl⟩ (by kernel_rfl) rfl
    (fun f fn hf hfn => by
      obtain rfl : f = 3 := Option.some.inj ((show Ybad.prog.funcNamed Rows.lawS2327BStatusRow.func = some 3 by kernel_rfl).symm.trans hf) |>.symm
      obtain rfl : fn = Ybad.f3 := (Option.some.inj (Ybad.func3.symm.trans hfn)).symm
      exact ⟨by kernel_rfl, fun j t ht => by
        rw [Ybad.params3] at ht
        have hm : t = 25 := by
          have hm0 := Array.mem_of_getElem? ht
          simpa using hm0
        subst hm
        exact (show Ybad.prog.wantsStandIn 25 = false by kernel_rfl)⟩)
    (by kernel_rfl)
#print axioms status_card
end Go.Proofs.YbulkaveaDoor

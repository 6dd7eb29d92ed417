import Derived.Test.YbulkavfqFmtBase
import Derived.Test.YbulkavfqFmtRead
import Derived.Test.YbulkavfqFmtTie
import Derived.Test.YbulkavfqFmtCards
import Derived.SevenTiedAt
namespace Go.Proofs.YbulkavfqFmt
open Go.ChangeShapes Go.WideShapes Go.ChangeAt Go.RowKit

/-- What the walk is told of the bytes that came in. -/
def IsRow (w : World) (a : Option Addr) (len cap : Nat) (zs : List Int) : Prop :=
  (a = none ∧ len = 0 ∧ cap = 0 ∧ zs = []) ∨
  ∃ x, a = some x ∧ len ≤ cap ∧ cap ≤ maxLen ∧ zs.length = cap ∧ (∀ i, i < zs.length → w.cell? (x.add i) = some (.int .u8 (zs.getD i 0))) ∧ ∀ n ∈ zs, (Lit.int .u8 n).wf = true

theorem plain_addr {w : World} {x : Addr} {v : Value} (h : w.cell? x = some v) : x = ⟨x.block, x.off, none⟩ := by
  obtain ⟨b, o, s⟩ := x
  cases s with
  | none => rfl
  | some k =>
    unfold World.cell? at h
    split at h
    · simp at h
    · cases h

theorem add_plain (b o i : Nat) : (⟨b, o, none⟩ : Addr).add i = ⟨b, o + i, none⟩ := by
  unfold Addr.add
  by_cases h : i = 0
  · subst h; rfl
  · rw [if_neg h]

/-- THE WALK, WHOLE. -/
theorem read_any (F : Stop.Interp) (a0 : Option Addr) (len cap : Nat) (zs : List Int) (off : Int) (a : Addr) (s : ByteArray) (w : World) (hF : F.answers w.tape) (hg : w.cell? ⟨0, 0, none⟩ = some (.iface 61 (.pointer (some a)))) (hs : w.cell? a = some (.string s))
    (hr : IsRow w a0 len cap zs) (h0 : 0 ≤ off) (h1 : off ≤ 18446744073709551615) :
    Calls Ybaf.prog 3 #[.slice a0 len cap, .int .u64 off] w fun e w' => e = .returned (.bool true) ∧ Below w.heap.size w w' := by
  by_cases hl : 1048576 < len
  · refine read_long a0 len cap off w hl ?_
    rcases hr with ⟨_, rfl, _⟩ | ⟨x, _, hlc, hm, _⟩
    · omega
    · unfold maxLen at hm; omega
  · have hp : 0 ≤ off % ((len : Int) + 1) := Int.emod_nonneg _ (by omega)
    have hq : off % ((len : Int) + 1) < (len : Int) + 1 := Int.emod_lt_of_pos _ (by omega)
    obtain ⟨o, ho⟩ := Int.eq_ofNat_of_zero_le hp
    have hol : o ≤ len := by omega
    by_cases hb : len < o + 4
    · exact read_bad F a0 len cap o off a s w hF hg hs (by omega) h0 h1 ho hol hb
    · rcases hr with ⟨_, rfl, _⟩ | ⟨x, rfl, hlc, hm, hz, hc, hw⟩
      · omega
      · have hx : x = ⟨x.block, x.off, none⟩ := by
          have := hc 0 (by omega)
          rw [show x.add 0 = x from rfl] at this
          exact plain_addr this
        have hadd : ∀ i, i < zs.length → w.cell? ⟨x.block, x.off + i, none⟩ = some (.int .u8 (zs.getD i 0)) := by
          intro i hi
          have := hc i hi
          rw [hx] at this
          rwa [add_plain] at this
        have hbd : ∀ i, i < zs.length → 0 ≤ zs.getD i 0 ∧ zs.getD i 0 < 256 := by
          intro i hi
          have : zs.getD i 0 = zs[i] := by simp [List.getD, List.getElem?_eq_getElem hi]
          rw [this]
          exact wf8 (hw _ (List.getElem_mem hi))
        rw [hx]
        unfold maxLen at hm
        exact read_ok x.block x.off len cap o off _ _ _ _ w (by omega) hlc hm h0 h1 ho (by omega) (hadd o (by omega)) (hadd (o + 1) (by omega)) (hadd (o + 2) (by omega)) (hadd (o + 3) (by omega))
          (hbd o (by omega)).1 (hbd (o + 1) (by omega)).1 (hbd (o + 2) (by omega)).1 (hbd (o + 3) (by omega)).1 (hbd o (by omega)).2 (hbd (o + 1) (by omega)).2 (hbd (o + 2) (by omega)).2 (hbd (o + 3) (by omega)).2

set_option maxRecDepth 100000 in
theorem read_lifted (os : Os) (started : os.Started) (H : Type) (enc : TypeId × Value → H) :
    ReturnsInTold none {} Ybaf.checked os 3 .any Input.okWide ((OpenSpec.ofChange Rows.lawS2330AReadSpec).preRow enc Ybaf.prog Ybaf.f3 Rows.lawS2330AReadRow.domain false Rows.lawS2330AReadRow.laid)
      (fun F => ((OpenSpec.ofChange Rows.lawS2330AReadSpec).at F).post enc Ybaf.prog Ybaf.f3 false true false false) (aloneAtReturn Ybaf.prog) nothingAlways := by
  refine returnsInTold_of_row (C := Ybaf.checked) (s := OpenSpec.ofChange Rows.lawS2330AReadSpec) (by kernel_rfl) own started (by kernel_rfl) Ybaf.func3
    (witness_laid (World.laidAll Ybaf.prog os Rows.lawS2330AReadRow.laid) #[.slice none 0 0, .int .u64 0] (World.laidAll_os _ _ _) (World.shaped_of_ZipB (by kernel_rfl) (by kernel_rfl)) (by kernel_rfl)
      (OpenSpec.preRow_of_B rfl 8 (by kernel_rfl) (by kernel_rfl) (by rw [MakeChecks.laidMetH_plain _ _ _ (by kernel_rfl)]; exact laidMet_laidAll _ (by kernel_rfl) (by kernel_rfl)))) ?_
  intro F W base args ds gs before _ hF hval0 hW _ _ _ hL _
  have hval : ∀ (j : Nat) t v, Ybaf.f3.params[j]? = some t → args[j]? = some v → Value.okWide Ybaf.prog W .any base t v := hval0
  have hW' := hW
  obtain ⟨p, q, hA0, hV, rfl, hfz, hnd⟩ := hW
  have hA : DataW.TrodAll enc Ybaf.prog W 0 (fun _ => true) true Ybaf.f3.params.toList args.toList ds p := hA0
  rw [Ybaf.params3] at hA hval
  obtain ⟨v0, vs0, d0, ds0, p0, q0, hargs, rfl, rfl, h0, r0⟩ := trodAll_cons hA
  obtain ⟨v1, vs1, d1, ds1, p1, q1, rfl, rfl, rfl, h1, r1⟩ := trodAll_cons r0
  obtain ⟨rfl, rfl, rfl⟩ := trodAll_nil r1
  obtain rfl : args = #[v0, v1] := by cases args; simp_all
  obtain ⟨a0, len0, cap0, rfl⟩ := okWide_slice Ybaf.underlying22 (hval 0 22 v0 rfl rfl)
  have k0 := h0
  have lt0 : ∀ x ∈ p0, x.block < W.heap.size := by obtain ⟨m, hm⟩ := k0; exact DataW.trod_lt m _ _ _ hm
  obtain ⟨z0, w0⟩ : ∃ zs, IsRow W a0 len0 cap0 zs := by
    obtain ⟨fuel, hf⟩ := h0
    rcases open_ints Ybaf.underlying22 Ybaf.underlying5 (by kernel_rfl) hf with ⟨hcs, _⟩ | ⟨x, l, c, zs, hcs, _, hl, hm, hz, _, hcell, hwz⟩
    · simp [Value.cells] at hcs
      obtain ⟨rfl, rfl, rfl⟩ := hcs
      exact ⟨[], .inl ⟨rfl, rfl, rfl, rfl⟩⟩
    · simp [Value.cells] at hcs
      obtain ⟨rfl, rfl, rfl⟩ := hcs
      exact ⟨zs, .inr ⟨_, rfl, hl, hm, by simpa using hz, hcell, hwz⟩⟩
  obtain ⟨off, rfl, rfl, rfl, w1⟩ := open_int Ybaf.underlying23 (hval 1 23 v1 rfl rfl) h1
  obtain ⟨g1, rfl⟩ : ∃ g1, gs = [g1] := by
    match gs, hV with
    | [g1], _ => exact ⟨g1, rfl⟩
  obtain ⟨a, tx, hg, htx⟩ := sentinel_of_laid hL
  refine (read_any F.told a0 len0 cap0 z0 off a tx W hF hg htx w0 (wf64 w1).1 (wf64 w1).2).mono fun e W' ⟨he, bel⟩ => ?_
  subst he
  exact ⟨_, rfl, _, _, _, [], _, _, hW', trodAll_mk1 (shut_bool Ybaf.underlying4 _), (trodAll_cons_mk (Below.trod laidOut (by kernel_rfl) (of_decide_eq_true (by kernel_rfl)) k0 bel lt0) (trodAll_cons_mk (shut_int Ybaf.underlying23 w1) trodAll_mk0)), bel.trodVars laidOut (by kernel_rfl) hV, bel.frame _, fun h => by cases h⟩

/-- ████ THE STATEMENT: THE TOLD AND TIED CARD ████ -/
theorem read_card : Rows.LawS2330AReadToldSaid :=
  Claim7.holds_of_told_tied_any_at .later 3 Ybaf.f3 "fmt.errorf" [] [] Rows.lawS2330AReadCard.stood.harness true false [.sentinel] true (by kernel_rfl) rfl rfl rfl laidOut (by kernel_rfl) rfl ⟨rfl, rfl, rfl, rfl, rfl, rfl, rfl⟩ rfl rfl (by kernel_rfl) (by kernel_rfl) Ybaf.func3 (by kernel_rfl)
    (of_decide_eq_true (by kernel_rfl)) (by unfold Func.isWrapper; first | (rw [if_pos (by decide +kernel)]; kernel_rfl) | (rw [if_neg (by decide +kernel)]; exact ⟨rfl, rfl⟩)) stops.symm rfl stopKnobs.symm (by kernel_rfl)
    (by kernel_rfl) (by kernel_rfl) (by kernel_rfl) (by kernel_rfl) (by kernel_rfl) (by kernel_rfl) (by kernel_rfl) (by kernel_rfl) (by kernel_rfl) rfl (by kernel_rfl) rfl rfl
    rfl rfl
    rfl (by kernel_rfl) (by kernel_rfl) (by kernel_rfl) (by decide) (by kernel_rfl) lawS2330ARead_row_tie
    (OpenClaim.moreEntering_of (by kernel_rfl) (by kernel_rfl) (by kernel_rfl) (by kernel_rfl) (by kernel_rfl) (by kernel_rfl) (by kernel_rfl) (by kernel_rfl) (by kernel_rfl) (by kernel_rfl))
    ⟨_, WideRow.started_initial, quiet _⟩
    (fun os started _ H enc _ => read_lifted os started H enc)
#print axioms read_card
end Go.Proofs.YbulkavfqFmt

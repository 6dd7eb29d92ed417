import Derived.Test.YbulkaveaDoorTotal
namespace Go.Proofs.YbulkaveaDoor
open Go.RowKit

/-- Which of the 60 cells the law has marked behind n seconds from second a on. -/
def mk (a : Int) : Nat → Nat → Bool
  | 0, _ => false
  | n + 1, i => if i = ((a + n) % 60).toNat then true else mk a n i

/-- The law's own sum. -/
def lsum (c : Nat → Int) (m : Nat → Bool) : Nat → Int
  | 0 => 0
  | k + 1 => if m k = true then lsum c m k else wrap64 (lsum c m k + c k)

theorem clr_mk (c : Nat → Int) (a : Int) (n i : Nat) : clr c a n i = if mk a n i = true then 0 else c i := by
  induction n with
  | zero => simp [clr, mk]
  | succ n ih =>
    simp only [clr, mk]
    split
    · simp
    · exact ih

theorem mk_iff (a : Int) (n i : Nat) : mk a n i = true ↔ ∃ j, j < n ∧ i = ((a + (j : Int)) % 60).toNat := by
  induction n with
  | zero => simp [mk]
  | succ n ih =>
    simp only [mk]
    split
    · rename_i h
      simp only [true_iff]
      exact ⟨n, by omega, h⟩
    · rename_i h
      rw [ih]
      constructor
      · rintro ⟨j, hj, he⟩
        exact ⟨j, by omega, he⟩
      · rintro ⟨j, hj, he⟩
        by_cases hjn : j = n
        · subst hjn; exact absurd he h
        · exact ⟨j, by omega, he⟩

/-- The store clears the seconds of the last minute alone, the law all since 'latest': the same cells. -/
theorem mk_same (l x : Int) (l1 : l ≤ x) (i : Nat) (hi : i < 60) : mk (max (l + 1) (x - 59)) (x + 1 - max (l + 1) (x - 59)).toNat i = mk (l + 1) (x - l).toNat i := by
  by_cases h : x - l ≤ 60
  · have e1 : max (l + 1) (x - 59) = l + 1 := by omega
    have e2 : (x + 1 - (l + 1)).toNat = (x - l).toNat := by omega
    rw [e1, e2]
  · have e1 : max (l + 1) (x - 59) = x - 59 := by omega
    rw [e1]
    have h1 : mk (x - 59) (x + 1 - (x - 59)).toNat i = true := by
      rw [mk_iff]
      exact ⟨((i - (x - 59)) % 60).toNat, by omega, by omega⟩
    have h2 : mk (l + 1) (x - l).toNat i = true := by
      rw [mk_iff]
      exact ⟨((i - (l + 1)) % 60).toNat, by omega, by omega⟩
    rw [h1, h2]

theorem tsum_range (c : Nat → Int) (n : Nat) : -9223372036854775808 ≤ tsum c n ∧ tsum c n ≤ 9223372036854775807 := by
  cases n with
  | zero => simp [tsum]
  | succ n => simp only [tsum, wrap64]; omega

theorem sum_same (c d : Nat → Int) (m : Nat → Bool) (n : Nat) (h : ∀ i, i < n → d i = if m i = true then 0 else c i) : tsum d n = lsum c m n := by
  induction n with
  | zero => rfl
  | succ n ih =>
    have ihn := ih (fun i hi => h i (by omega))
    simp only [tsum, lsum]
    rw [h n (by omega)]
    split
    · rw [← ihn]
      have := tsum_range d n
      rw [Int.add_zero]
      unfold wrap64
      omega
    · rw [← ihn]

/-- THE PLAIN LAW: what the store's count gives is what the law sums. -/
theorem total_same (c : Nat → Int) (l x : Int) (l1 : l ≤ x) :
    tsum (clr c (max (l + 1) (x - 59)) (x + 1 - max (l + 1) (x - 59)).toNat) 60 = lsum c (mk (l + 1) (x - l).toNat) 60 := by
  apply sum_same
  intro i hi
  rw [clr_mk, mk_same l x l1 i hi]
end Go.Proofs.YbulkaveaDoor

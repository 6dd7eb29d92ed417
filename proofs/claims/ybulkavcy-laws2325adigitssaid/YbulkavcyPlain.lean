import Derived.Test.YbulkavcyLead
import Derived.Laws.BytesArg
import Derived.Laws.OwnMore
namespace Go.Proofs.Ybulkavcy.lawS2325ADigits
open Go.RowKit

/-- What the first loop lays: the digit of a byte. -/
def dg (z : Int) : Int := 48 + z % 10
def rowTo (zs : List Int) (len k : Nat) : List Value := (zs.take k).map (fun z => Value.int .u8 (dg z)) ++ List.replicate (len - k) (Value.int .u8 0)

theorem rowTo_zero (zs : List Int) (len : Nat) : rowTo zs len 0 = List.replicate len (Value.int .u8 0) := by simp [rowTo]
theorem rowTo_set (zs : List Int) (len k : Nat) (hk : k < len) (hz : len ≤ zs.length) : (rowTo zs len k).set k (.int .u8 (dg (zs.getD k 0))) = rowTo zs len (k + 1) := by
  unfold rowTo
  have hl : ((zs.take k).map (fun z => Value.int .u8 (dg z))).length = k := by simp; omega
  rw [List.set_append_right _ _ (by omega), hl, Nat.sub_self, show len - k = (len - (k + 1)) + 1 by omega, List.replicate_succ, List.set_cons_zero,
    List.take_succ_eq_append_getElem (by omega), List.map_append, List.append_assoc]
  simp [List.getD, List.getElem?_eq_getElem (show k < zs.length by omega)]
theorem rowTo_at (zs : List Int) (len k : Nat) (hk : k < len) (hz : len ≤ zs.length) : (rowTo zs len k)[k]? = some (.int .u8 0) := by
  unfold rowTo
  have hl : ((zs.take k).map (fun z => Value.int .u8 (dg z))).length = k := by simp; omega
  rw [List.getElem?_append_right (by omega), hl, Nat.sub_self, List.getElem?_replicate, if_pos (by omega)]
theorem rowTo_full (zs : List Int) (len : Nat) : rowTo zs len len = ((zs.take len).map dg).map (Value.int .u8) := by
  rw [rowTo, Nat.sub_self, List.replicate_zero, List.append_nil, List.map_map]; rfl

def sOf (zs : List Int) (len : Nat) : ByteArray := strOfNums ((zs.take len).map dg)
theorem sOf_size (zs : List Int) (len : Nat) (hz : len ≤ zs.length) : (sOf zs len).size = len := by simp [sOf, strOfNums_size]; omega
theorem sOf_list (zs : List Int) (len : Nat) : (sOf zs len).data.toList = (zs.take len).map fun z => UInt8.ofNat (dg z).toNat := by
  rw [sOf, strOfNums_data, List.map_map]; rfl
theorem dg_bd (z : Int) : 48 ≤ dg z ∧ dg z ≤ 57 := by unfold dg; omega
theorem dg_nat (z : Int) : ((UInt8.ofNat (dg z).toNat).toNat : Int) = dg z := by
  have := dg_bd z
  rw [UInt8.toNat_ofNat']
  omega
theorem sOf_dig (zs : List Int) (len : Nat) : ∀ c ∈ (sOf zs len).data.toList, isDig c := by
  intro c hc
  rw [sOf_list, List.mem_map] at hc
  obtain ⟨z, _, rfl⟩ := hc
  unfold isDig
  rw [dg_nat]
  exact dg_bd z
theorem sOf_at (zs : List Int) (len k : Nat) (hz : len ≤ zs.length) (h : k < (sOf zs len).size) : (((sOf zs len)[k]).toNat : Int) = dg (zs.getD k 0) := by
  have hk : k < len := by rw [sOf_size zs len hz] at h; exact h
  have e : (sOf zs len)[k] = (sOf zs len).data.toList[k]'(by simpa using h) := rfl
  rw [e]
  simp only [sOf_list, List.getElem_map, List.getElem_take]
  rw [dg_nat]
  simp [List.getD, List.getElem?_eq_getElem (show k < zs.length by omega)]

/-! ### the second loop's three sums behind k rounds, n = the number of digits -/
def eH (s : ByteArray) (k : Nat) : Int := num (s.data.toList.take (min k (s.size - 4)))
def eM (s : ByteArray) (k : Nat) : Int := num ((s.data.toList.take (min k (s.size - 2))).drop (s.size - 4))
def eS (s : ByteArray) (k : Nat) : Int := num ((s.data.toList.take k).drop (s.size - 2))

theorem num_len1 (l : List UInt8) (hl : l.length ≤ 1) (hd : ∀ c ∈ l, isDig c) : num l ≤ 9 := by
  match l, hl with
  | [], _ => decide
  | [c], _ =>
    have := hd c (by simp)
    unfold isDig at this
    simp only [num, List.foldl_cons, List.foldl_nil]
    omega
theorem eH_bd {s : ByteArray} (hd : ∀ c ∈ s.data.toList, isDig c) (k : Nat) : 0 ≤ eH s k ∧ eH s k ≤ 9999999 := num_bd _ fun c hc => hd c (List.mem_of_mem_take hc)
theorem eM_bd {s : ByteArray} (hd : ∀ c ∈ s.data.toList, isDig c) (k : Nat) : 0 ≤ eM s k ∧ eM s k ≤ 9999999 := num_bd _ fun c hc => hd c (List.mem_of_mem_take (List.mem_of_mem_drop hc))
theorem eS_bd {s : ByteArray} (hd : ∀ c ∈ s.data.toList, isDig c) (k : Nat) : 0 ≤ eS s k ∧ eS s k ≤ 9999999 := num_bd _ fun c hc => hd c (List.mem_of_mem_take (List.mem_of_mem_drop hc))
theorem eH_yes (s : ByteArray) (k : Nat) (h : k + 4 < s.size) : eH s (k + 1) = min (eH s k * 10 + ((s[k].toNat : Int) - 48)) 9999999 := by
  unfold eH
  rw [Nat.min_eq_left (by omega), Nat.min_eq_left (by omega), take_snoc s k (by omega), num_snoc]
theorem eM_yes {s : ByteArray} (hd : ∀ c ∈ s.data.toList, isDig c) (k : Nat) (h1 : s.size ≤ k + 4) (h2 : k + 2 < s.size) : eM s (k + 1) = eM s k * 10 + ((s[k].toNat : Int) - 48) := by
  have hc := hd _ (mem_at s k (by omega))
  unfold isDig at hc
  have hb : eM s k ≤ 9 := by
    unfold eM
    refine num_len1 _ ?_ fun c hc => hd c (List.mem_of_mem_take (List.mem_of_mem_drop hc))
    simp only [List.length_drop, List.length_take]
    omega
  have h0 := (eM_bd hd k).1
  have e : eM s (k + 1) = min (eM s k * 10 + ((s[k].toNat : Int) - 48)) 9999999 := by
    unfold eM
    rw [Nat.min_eq_left (by omega), Nat.min_eq_left (by omega), take_snoc s k (by omega), List.drop_append_of_le_length (by simp; omega), num_snoc]
  rw [e]; omega
theorem eS_yes {s : ByteArray} (hd : ∀ c ∈ s.data.toList, isDig c) (k : Nat) (h1 : s.size ≤ k + 2) (h2 : k < s.size) : eS s (k + 1) = eS s k * 10 + ((s[k].toNat : Int) - 48) := by
  have hc := hd _ (mem_at s k (by omega))
  unfold isDig at hc
  have hb : eS s k ≤ 9 := by
    unfold eS
    refine num_len1 _ ?_ fun c hc => hd c (List.mem_of_mem_take (List.mem_of_mem_drop hc))
    simp only [List.length_drop, List.length_take]
    omega
  have h0 := (eS_bd hd k).1
  have e : eS s (k + 1) = min (eS s k * 10 + ((s[k].toNat : Int) - 48)) 9999999 := by
    unfold eS
    rw [take_snoc s k (by omega), List.drop_append_of_le_length (by simp; omega), num_snoc]
  rw [e]; omega
theorem eH_no (s : ByteArray) (k : Nat) (h : s.size ≤ k + 4) : eH s (k + 1) = eH s k := by
  unfold eH; rw [Nat.min_eq_right (by omega), Nat.min_eq_right (by omega)]
theorem eM_early (s : ByteArray) (k : Nat) (h : k + 4 < s.size) : eM s (k + 1) = eM s k := by
  unfold eM; rw [List.drop_of_length_le (by simp; omega), List.drop_of_length_le (by simp; omega)]
theorem eM_late (s : ByteArray) (k : Nat) (h : s.size ≤ k + 2) : eM s (k + 1) = eM s k := by
  unfold eM; rw [Nat.min_eq_right (by omega), Nat.min_eq_right (by omega)]
theorem eS_no (s : ByteArray) (k : Nat) (h : k + 2 < s.size) : eS s (k + 1) = eS s k := by
  unfold eS; rw [List.drop_of_length_le (by simp; omega), List.drop_of_length_le (by simp; omega)]
theorem eH_end (s : ByteArray) : eH s s.size = numS (s.extract 0 (s.size - 4)) := by
  unfold eH numS; rw [ext_list, Nat.min_eq_right (by omega), List.drop_zero]
theorem eM_end (s : ByteArray) : eM s s.size = numS (s.extract (s.size - 4) (s.size - 2)) := by
  unfold eM numS; rw [ext_list, Nat.min_eq_right (by omega)]
theorem eS_end (s : ByteArray) : eS s s.size = numS (s.extract (s.size - 2) s.size) := by
  unfold eS numS; rw [ext_list]

end Go.Proofs.Ybulkavcy.lawS2325ADigits

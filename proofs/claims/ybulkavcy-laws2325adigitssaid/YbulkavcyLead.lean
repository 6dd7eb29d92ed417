import Derived.Test.YbulkavcyRows
import Derived.WalkKit
import Derived.WalkSpells
import Derived.WalkLawsBesides
namespace Go.Proofs.Ybulkavcy.lawS2325ADigits
open Go.RowKit

/-- The value that a run of digits writes, cut off at 9999999. -/
def num (l : List UInt8) : Int := l.foldl (fun v c => min (v * 10 + ((c.toNat : Int) - 48)) 9999999) 0
def isDig (c : UInt8) : Prop := 48 ≤ (c.toNat : Int) ∧ (c.toNat : Int) ≤ 57

theorem num_bd_from : ∀ (l : List UInt8) (v : Int), (∀ c ∈ l, isDig c) → 0 ≤ v → v ≤ 9999999 → 0 ≤ l.foldl (fun v c => min (v * 10 + ((c.toNat : Int) - 48)) 9999999) v ∧ l.foldl (fun v c => min (v * 10 + ((c.toNat : Int) - 48)) 9999999) v ≤ 9999999
  | [], v, _, h0, h1 => ⟨h0, h1⟩
  | c :: l, v, hd, h0, h1 => by
    rw [List.foldl_cons]
    have hc := hd c (by simp)
    unfold isDig at hc
    exact num_bd_from l _ (fun x hx => hd x (by simp [hx])) (by omega) (by omega)
theorem num_bd (l : List UInt8) (hd : ∀ c ∈ l, isDig c) : 0 ≤ num l ∧ num l ≤ 9999999 := num_bd_from l 0 hd (by omega) (by omega)
theorem num_snoc (l : List UInt8) (c : UInt8) : num (l ++ [c]) = min (num l * 10 + ((c.toNat : Int) - 48)) 9999999 := by
  unfold num; rw [List.foldl_append]; rfl
theorem take_snoc (s : ByteArray) (k : Nat) (h : k < s.size) : s.data.toList.take (k + 1) = s.data.toList.take k ++ [s[k]] := by
  rw [List.take_succ_eq_append_getElem (by simpa using h)]; rfl
theorem mem_at (s : ByteArray) (k : Nat) (h : k < s.size) : s[k] ∈ s.data.toList := by
  have : s[k] = s.data.toList[k]'(by simpa using h) := rfl
  rw [this]; exact List.getElem_mem _

theorem val_int {k : IntKind} {a b : Int} (h : a = b) : Value.int k a = .int k b := by rw [h]
theorem ret_int2 {a b c d : Int} (h : a = b) (h' : c = d) : Ending.returned (.tuple #[.int .i64 a, .int .i64 c]) = .returned (.tuple #[.int .i64 b, .int .i64 d]) := by rw [h, h']
theorem step_min (v : Int) (c : UInt8) (h : isDig c) : (if 9999999 < v * 10 + ((c.toNat : Int) - 48) % 256 then 9999999 else v * 10 + ((c.toNat : Int) - 48) % 256) = min (v * 10 + ((c.toNat : Int) - 48)) 9999999 := by
  unfold isDig at h
  have e : ((c.toNat : Int) - 48) % 256 = (c.toNat : Int) - 48 := by omega
  rw [e]
  split <;> omega

set_option maxHeartbeats 400000 in
theorem isDigit_yes (c : Int) (h0 : 48 ≤ c) (h1 : c ≤ 57) (w : World) :
    Calls Yba.prog 7 #[.int .u8 c] w fun e w' => e = .returned (.bool true) ∧ w' = w := by
  go_enter Yba.func7, Yba.ntmps7
  go_wp2
  go_ret
  exact ⟨rfl, rfl⟩

set_option maxHeartbeats 400000 in
theorem lead_any (s : ByteArray) (w : World) (hs : s.size ≤ 1024) (hd : ∀ c ∈ s.data.toList, isDig c) :
    Calls Yba.prog 6 #[.string s] w fun e w' => e = .returned (.tuple #[.int .i64 (num s.data.toList), .int .i64 s.size]) ∧ w' = w := by
  go_enter Yba.func6, Yba.ntmps6
  go_wp2
  go_loop [2, 3] (fun v i => ∃ k : Nat, k ≤ s.size ∧ i = .int .i64 k ∧ v = .int .i64 (num (s.data.toList.take k))) (fun _ i => s.size - (intOf i).toNat)
  case atStart => exact ⟨0, Nat.zero_le _, rfl, rfl⟩
  case round =>
    obtain ⟨k, hk, rfl, rfl⟩ := hrel
    have hb := num_bd (s.data.toList.take k) (fun c hc => hd c (List.mem_of_mem_take hc))
    have hb0 := hb.1
    have hb1 := hb.2
    by_cases hlt : k < s.size
    · have HD : Hid (isDig s[k]) := hd _ (mem_at s k hlt)
      have HS : Hid (num (s.data.toList.take (k + 1)) = min (num (s.data.toList.take k) * 10 + ((s[k].toNat : Int) - 48)) 9999999) := by rw [take_snoc s k hlt]; exact num_snoc _ _
      clear hb
      go_wp2_with (go_at_call 7; refine (isDigit_yes _ HD.out.1 HD.out.2 _).mono ?_; rintro e w' ⟨rfl, rfl⟩)
      go_round
      case rel => exact ⟨k + 1, by omega, by go_num, by rw [HS.out]; exact val_int (step_min _ _ HD.out)⟩
      case measure => simp [intOf]; omega
    · go_wp2
      go_ret2
      have he : k = s.size := by omega
      subst he
      exact ⟨ret_int2 (by rw [List.take_of_length_le (by simp)]) rfl, rfl⟩

theorem ext_list (s : ByteArray) (a b : Nat) : (s.extract a b).data.toList = (s.data.toList.take b).drop a := by
  rw [ByteArray.data_extract, Array.toList_extract, List.extract_eq_take_drop, List.drop_take]
theorem dig_ext {s : ByteArray} (hd : ∀ c ∈ s.data.toList, isDig c) (a b : Nat) : ∀ c ∈ (s.extract a b).data.toList, isDig c := by
  intro c hc
  rw [ext_list] at hc
  exact hd c (List.mem_of_mem_take (List.mem_of_mem_drop hc))
theorem size_ext {s : ByteArray} (hs : s.size ≤ 1024) (a b : Nat) : (s.extract a b).size ≤ 1024 := by
  rw [ByteArray.size_extract]; omega
def numS (s : ByteArray) : Int := num s.data.toList
theorem lead_ext (s : ByteArray) (a b : Nat) (w : World) (hs : s.size ≤ 1024) (hd : ∀ c ∈ s.data.toList, isDig c) :
    Calls Yba.prog 6 #[.string (s.extract a b)] w fun e w' => ∃ n : Int, e = .returned (.tuple #[.int .i64 (numS (s.extract a b)), .int .i64 n]) ∧ w' = w :=
  (lead_any (s.extract a b) w (size_ext hs a b) (dig_ext hd a b)).mono fun _ _ h => ⟨_, h⟩
theorem lead_whole (s : ByteArray) (w : World) (hs : s.size ≤ 1024) (hd : ∀ c ∈ s.data.toList, isDig c) :
    Calls Yba.prog 6 #[.string s] w fun e w' => ∃ n : Int, e = .returned (.tuple #[.int .i64 (numS s), .int .i64 n]) ∧ w' = w :=
  (lead_any s w hs hd).mono fun _ _ h => ⟨_, h⟩
theorem lead_empty (w : World) :
    Calls Yba.prog 6 #[.string ByteArray.empty] w fun e w' => ∃ n : Int, e = .returned (.tuple #[.int .i64 0, .int .i64 n]) ∧ w' = w :=
  (lead_any ByteArray.empty w (by decide) (by intro c hc; cases hc)).mono fun _ _ h => ⟨_, h⟩
set_option maxHeartbeats 400000 in
theorem read_any (s : ByteArray) (w : World) (hs : s.size ≤ 1024) (hd : ∀ c ∈ s.data.toList, isDig c) :
    Calls Yba.prog 5 #[.string s] w fun e w' => e = .returned (.tuple #[.int .i64 (numS (s.extract 0 (s.size - 4))), .int .i64 (numS (s.extract (s.size - 4) (s.size - 2))), .int .i64 (numS (s.extract (s.size - 2) s.size))]) ∧ w' = w := by
  by_cases h4 : 4 ≤ s.size
  · go_enter Yba.func5, Yba.ntmps5
    go_wp2_with fail
    refine (lead_ext _ _ _ _ hs hd).mono ?_
    rintro e w' ⟨n, rfl, rfl⟩
    go_wp2_with fail
    refine (lead_ext _ _ _ _ hs hd).mono ?_
    rintro e w' ⟨n2, rfl, rfl⟩
    go_wp2_with fail
    refine (lead_ext _ _ _ _ hs hd).mono ?_
    rintro e w' ⟨n3, rfl, rfl⟩
    go_wp2
    go_ret3
    exact ⟨rfl, rfl⟩
  · have E1 : Hid (numS (s.extract 0 (s.size - 4)) = 0) := by
      show num _ = 0
      rw [ext_list, show s.size - 4 = 0 by omega]; rfl
    by_cases h2 : 2 ≤ s.size
    · have E2 : Hid (s.size - 4 = 0) := show s.size - 4 = 0 by omega
      go_enter Yba.func5, Yba.ntmps5
      go_wp2_with fail
      refine (lead_empty _).mono ?_
      rintro e w' ⟨n, rfl, rfl⟩
      go_wp2_with fail
      refine (lead_ext _ _ _ _ hs hd).mono ?_
      rintro e w' ⟨n2, rfl, rfl⟩
      go_wp2_with fail
      refine (lead_ext _ _ _ _ hs hd).mono ?_
      rintro e w' ⟨n3, rfl, rfl⟩
      go_wp2
      go_ret3
      exact ⟨by rw [E1.out, E2.out]; rfl, rfl⟩
    · have E2 : Hid (numS (s.extract (s.size - 4) (s.size - 2)) = 0) := by
        show num _ = 0
        rw [ext_list, show s.size - 2 = 0 by omega, List.take_zero, List.drop_nil]; rfl
      have E3 : Hid (s.extract (s.size - 2) s.size = s) := by
        show s.extract (s.size - 2) s.size = s
        rw [show s.size - 2 = 0 by omega]; simp
      go_enter Yba.func5, Yba.ntmps5
      go_wp2_with fail
      refine (lead_empty _).mono ?_
      rintro e w' ⟨n, rfl, rfl⟩
      go_wp2_with fail
      refine (lead_empty _).mono ?_
      rintro e w' ⟨n2, rfl, rfl⟩
      go_wp2_with fail
      refine (lead_whole _ _ hs hd).mono ?_
      rintro e w' ⟨n3, rfl, rfl⟩
      go_wp2
      go_ret3
      exact ⟨by rw [E1.out, E2.out, E3.out]; rfl, rfl⟩

end Go.Proofs.Ybulkavcy.lawS2325ADigits

/-
  THE WALKS of zzNumRun (7), of the closure of ScanNumber (13), of the two size tests (5, 10).
-/
import Derived.Test.Qxb6619344aStep
import Derived.Lib.Strings
namespace Go.Proofs.Qxb6619344a
open Go.RowKit
set_option linter.unusedSimpArgs false

/-- A string's bytes as numbers. -/
def nums (s : ByteArray) : List Nat := s.data.toList.map UInt8.toNat
theorem nums_length (s : ByteArray) : (nums s).length = s.size := by simp [nums]
theorem nums_ch (s : ByteArray) (k : Nat) (h : k < s.size) : Num.ch (nums s) k = s[k].toNat := by
  have h2 : k < s.data.size := h
  simp only [Num.ch, nums, List.getD_eq_getElem?_getD, List.getElem?_map, Array.getElem?_toList, Array.getElem?_eq_getElem h2]
  rfl
theorem run_dead (l : List Nat) (k : Nat) (h : Num.run (l.take k) = -1) : Num.run l = -1 := by
  have h2 : l = l.take k ++ l.drop k := (List.take_append_drop _ _).symm
  have h3 : List.foldl Num.step 0 (l.take k) = -1 := h
  rw [h2]
  simp only [Num.run, List.foldl_append]
  rw [h3]
  exact Num.fold_dead _

/-! ### the size tests -/
set_option maxHeartbeats 400000 in
theorem bytes5 (s : ByteArray) (hs : s.size ≤ maxLen) (w : World) :
    Calls Try.prog 5 #[.string s] w fun e w' => e = .returned (.bool (decide (s.size ≤ 1048576))) ∧ w' = w := by
  unfold maxLen at hs
  by_cases h : s.size ≤ 1048576
  · go_enter Try.func5, Try.ntmps5
    go_wp2
    go_ret
    exact ⟨ret_bool (by simp [h]), rfl⟩
  · go_enter Try.func5, Try.ntmps5
    go_wp2
    go_ret
    exact ⟨ret_bool (by simp [h]), rfl⟩

/-! ### zzNumRun -/
set_option maxHeartbeats 400000 in
theorem run_calls (s : ByteArray) (hs : s.size ≤ maxLen) (w : World) :
    Calls Try.prog 7 #[.string s] w fun e w' => e = .returned (.int .i64 (Num.run (nums s))) ∧ w' = w := by
  unfold maxLen at hs
  go_enter Try.func7, Try.ntmps7
  go_wp2
  go_loop [3, 4] (fun st i => ∃ k : Nat, k ≤ s.size ∧ i = .int .i64 k ∧ 0 ≤ Num.run ((nums s).take k) ∧ st = .int .i64 (Num.run ((nums s).take k))) (fun _ i => s.size - (intOf i).toNat)
  case atStart => exact ⟨0, Nat.zero_le _, rfl, by simp [Num.run], by simp [Num.run]⟩
  case round =>
    obtain ⟨k, hk, rfl, hpos, rfl⟩ := hrel
    by_cases hlt : k < s.size
    · have hsn := Num.run_snoc (nums s) k (by rw [nums_length]; exact hlt)
      rw [nums_ch s k hlt] at hsn
      have HS : Hid (Num.run ((nums s).take (k + 1)) = Num.step (Num.run ((nums s).take k)) s[k].toNat) := hsn
      clear hsn
      have hb : s[k].toNat ≤ 255 := by have := s[k].toNat_lt; omega
      by_cases hneg : Num.step (Num.run ((nums s).take k)) s[k].toNat < 0
      · go_wp2_with (go_at_call 8; refine (step_calls _ _ (by omega) (by omega) _).mono ?_; rintro e w' ⟨rfl, rfl⟩)
        go_ret
        refine ⟨ret_int ?_, rfl⟩
        rw [run_dead (nums s) (k + 1) (by rw [HS.out]; exact Num.step_neg hneg)]
      · go_wp2_with (go_at_call 8; refine (step_calls _ _ (by omega) (by omega) _).mono ?_; rintro e w' ⟨rfl, rfl⟩)
        go_round
        case rel => exact ⟨k + 1, by omega, by go_num, by rw [HS.out]; omega, by rw [HS.out]⟩
        case measure => simp [intOf]; omega
    · go_wp2
      go_ret
      refine ⟨ret_int ?_, rfl⟩
      rw [List.take_of_length_le (by rw [nums_length]; omega)]


/-! ### strings.HasPrefix at a prefix of one byte -/
theorem extract01 (s : ByteArray) (h : 0 < s.size) : (s.extract 0 1).toList = [s[0]] := by
  rw [Lib.toList_data, Lib.extract_data]
  obtain ⟨⟨l⟩⟩ := s
  cases l with
  | nil => simp [ByteArray.size] at h
  | cons a r => simp; rfl
set_option maxHeartbeats 400000 in
theorem hasPrefix_calls (s : ByteArray) (c : UInt8) (hs : s.size ≤ maxLen) (w : World) :
    Calls Try.prog 14 #[.string s, .string ⟨#[c]⟩] w fun e w' => e = .returned (.bool (decide (0 < s.size ∧ Num.ch (nums s) 0 = c.toNat))) ∧ w' = w := by
  unfold maxLen at hs
  by_cases h : 0 < s.size
  · go_enter Try.func14, Try.ntmps14
    go_wp2
    go_ret
    exact ⟨ret_bool (by rw [extract01 s h, nums_ch s 0 h, Bool.eq_iff_iff]; simp [h, ← UInt8.toNat_inj]), rfl⟩
  · go_enter Try.func14, Try.ntmps14
    go_wp2
    go_ret
    exact ⟨ret_bool (by simp [h]), rfl⟩

/-! ### the closure 'digits' of ScanNumber -/
theorem fin (s : ByteArray) (i k : Nat) (w : World) (h : Num.digits (nums s) i = k) (_hik : i ≤ k) :
    Ending.returned (.bool (decide (i < k))) = .returned (.bool (decide (i < Num.digits (nums s) i))) ∧
    (w.alloc (.cells #[.string s] 9)).alloc (.cells #[.int .i64 (k : Int)] 3) = (w.alloc (.cells #[.string s] 9)).alloc (.cells #[.int .i64 (Num.digits (nums s) i : Nat)] 3) := by
  rw [h]
  exact ⟨rfl, rfl⟩
set_option maxHeartbeats 400000 in
theorem digits_calls (s : ByteArray) (i : Nat) (hs : s.size ≤ maxLen) (hi : i ≤ s.size) (w : World) :
    Calls Try.prog 13 #[.pointer (some ⟨w.heap.size + 1, 0, none⟩), .pointer (some ⟨w.heap.size, 0, none⟩)] ((w.alloc (.cells #[.string s] 9)).alloc (.cells #[.int .i64 i] 3)) fun e w' =>
      e = .returned (.bool (decide (i < Num.digits (nums s) i))) ∧ w' = (w.alloc (.cells #[.string s] 9)).alloc (.cells #[.int .i64 (Num.digits (nums s) i)] 3) := by
  unfold maxLen at hs
  go_enter Try.func13, Try.ntmps13
  go_wp2
  go_loopw [] (fun wr => ∃ k : Nat, i ≤ k ∧ k ≤ s.size ∧ Num.digits (nums s) i = Num.digits (nums s) k ∧ wr = (w.alloc (.cells #[.string s] 9)).alloc (.cells #[.int .i64 k] 3))
    (fun wr => s.size - (intOf ((wr.cell? ⟨w.heap.size + 1, 0, none⟩).getD (.int .i64 0))).toNat)
  case atStart => exact ⟨i, Nat.le_refl _, hi, rfl, rfl⟩
  case round =>
    obtain ⟨k, hik, hk, hd, rfl⟩ := hrel
    have HD : Hid (Num.digits (nums s) i = Num.digits (nums s) k) := hd
    clear hd
    by_cases hlt : k < s.size
    · have hb : s[k].toNat ≤ 255 := by have := s[k].toNat_lt; omega
      by_cases h1 : 48 ≤ s[k].toNat
      · by_cases h2 : s[k].toNat ≤ 57
        · go_wp2
          go_roundw
          case rel => exact ⟨k + 1, by omega, by omega, HD.out.trans (Num.digits_go _ _ (by rw [nums_length]; exact hlt) (by rw [nums_ch s k hlt]; simp [Num.dig, h1, h2])), by simp⟩
          case measure => simp [intOf, World.cell?_alloc_at]; omega
        · have e : Num.digits (nums s) k = k := Num.digits_stop _ _ (by rw [nums_ch s k hlt]; simp [Num.dig, h2])
          go_wp2
          go_ret
          exact fin s i k w (HD.out.trans e) hik
      · have e : Num.digits (nums s) k = k := Num.digits_stop _ _ (by rw [nums_ch s k hlt]; simp [Num.dig, h1])
        go_wp2
        go_ret
        exact fin s i k w (HD.out.trans e) hik
    · have e : Num.digits (nums s) k = k := Num.digits_stop _ _ (by rw [nums_length]; omega)
      go_wp2
      go_ret
      exact fin s i k w (HD.out.trans e) hik

end Go.Proofs.Qxb6619344a

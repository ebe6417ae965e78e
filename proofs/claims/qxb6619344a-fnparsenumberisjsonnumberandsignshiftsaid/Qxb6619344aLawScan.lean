/-
  THE WALK OF THE LAW FnScanNumberIsLongestViablePrefix (3), out of its callees' contracts.
-/
import Derived.Test.Qxb6619344aScan
import Derived.Lib.IndexBytes
namespace Go.Proofs.Qxb6619344a
open Go.RowKit
set_option linter.unusedSimpArgs false

theorem nums_extract (s : ByteArray) (n : Nat) : nums (s.extract 0 n) = (nums s).take n := by
  unfold nums; rw [Lib.extract_data]; simp [List.map_take]
theorem extract_size (s : ByteArray) (n : Nat) (h : n ≤ s.size) : (s.extract 0 n).size = n := by
  have := nums_length (s.extract 0 n); rw [nums_extract, List.length_take, nums_length] at this; omega

theorem grown2 (w : World) (s : ByteArray) (k : Int) : Grown w ((w.alloc (.cells #[.string s] 9)).alloc (.cells #[.int .i64 k] 3)) := ((Grown.refl w).alloc _ _).alloc _ _

set_option maxHeartbeats 1000000 in
theorem lawScan (s : ByteArray) (hs : s.size ≤ maxLen) (w : World) :
    Calls Try.prog 3 #[.string s] w fun e w' => e = .returned (.bool true) ∧ Grown w w' := by
  have hs2 : s.size ≤ 9223372036854775807 := hs
  by_cases hb : s.size ≤ 1048576
  · have g := Num.scan_good (nums s)
    obtain ⟨gle, glive, gstop, gok⟩ := g
    rw [nums_length] at gle gstop
    have hx := extract_size s (Num.scan (nums s)).1 gle
    have HX := hide (nums_extract s (Num.scan (nums s)).1)
    generalize hN : (Num.scan (nums s)).1 = n at *
    generalize hB : (Num.scan (nums s)).2 = b at *
    have HN := hide hN
    have HB := hide hB
    have HO := hide gok
    clear hN hB gok
    go_enter Try.func3, Try.ntmps3
    go_wp2_with fail
    refine (bytes5 s hs _).mono ?_
    rintro e w' ⟨rfl, rfl⟩
    go_wp2_with fail
    refine (scan_calls s hs _).mono ?_
    rintro e w' ⟨rfl, k, rfl⟩
    rw [HN.out, HB.out]
    go_wp2_with fail
    refine (run_calls (s.extract 0 n) (by rw [hx]; exact Nat.le_trans gle hs) _).mono ?_
    rintro e w' ⟨rfl, rfl⟩
    rw [HX.out]
    generalize hst : Num.run (List.take n (nums s)) = st at *
    have HST := hide hst
    clear hst
    by_cases hlt : n < s.size
    · have hc := gstop hlt
      rw [nums_ch s n hlt] at hc
      have hb8 : s[n].toNat ≤ 255 := by have := s[n].toNat_lt; omega
      clear gstop
      go_wp2_with fail
      refine (step_calls st _ (by omega) (by omega) _).mono ?_
      rintro e w' ⟨rfl, rfl⟩
      rw [Int.toNat_natCast]
      generalize Num.step st s[n].toNat = q at *
      go_wp2_with fail
      refine (complete_calls st _).mono ?_
      rintro e w' ⟨rfl, rfl⟩
      go_wp2_with fail
      go_ret
      refine ⟨ret_bool ?_, grown2 _ _ _⟩
      rw [HO.out]; simp
    · go_wp2_with fail
      refine (complete_calls st _).mono ?_
      rintro e w' ⟨rfl, rfl⟩
      go_wp2_with fail
      go_ret
      refine ⟨ret_bool ?_, grown2 _ _ _⟩
      rw [HO.out]; simp
  · go_enter Try.func3, Try.ntmps3
    go_wp2_with fail
    refine (bytes5 s hs _).mono ?_
    rintro e w' ⟨rfl, rfl⟩
    go_wp2_with fail
    go_ret
    exact ⟨rfl, Grown.refl _⟩

end Go.Proofs.Qxb6619344a

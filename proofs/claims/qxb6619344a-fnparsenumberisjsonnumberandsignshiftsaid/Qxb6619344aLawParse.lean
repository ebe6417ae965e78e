/-
  THE WALK OF THE LAW FnParseNumberIsJSONNumberAndSignShift (4), out of its callees' contracts.
-/
import Derived.Test.Qxb6619344aParse
namespace Go.Proofs.Qxb6619344a
open Go.RowKit
set_option linter.unusedSimpArgs false

theorem neg_data (s : ByteArray) : ((⟨#[45]⟩ : ByteArray) ++ s).data.toList = 45 :: s.data.toList := by simp
theorem neg_nums (s : ByteArray) : nums ((⟨#[45]⟩ : ByteArray) ++ s) = 45 :: nums s := by
  unfold nums; rw [neg_data]; rfl
theorem neg_size (s : ByteArray) : ((⟨#[45]⟩ : ByteArray) ++ s).size = s.size + 1 := by
  have := nums_length ((⟨#[45]⟩ : ByteArray) ++ s)
  rw [neg_nums, List.length_cons, nums_length] at this
  exact this.symm
theorem data_inj {a b : ByteArray} (h : a.data.toList = b.data.toList) : a = b := by
  obtain ⟨⟨a⟩⟩ := a
  obtain ⟨⟨b⟩⟩ := b
  simp at h
  rw [h]
theorem unsign_of_neg (s : ByteArray) : unsign ((⟨#[45]⟩ : ByteArray) ++ s) = s := by
  rw [unsign_pos ⟨by rw [neg_size]; omega, by rw [neg_nums]; rfl⟩]
  apply data_inj
  rw [Lib.extract_to_end, neg_data]; rfl
theorem isNum_minus (s : ByteArray) (h : 0 < s.size) (hm : Num.ch (nums s) 0 = 45) : isNum s = false := by
  unfold isNum
  rw [Num.run_minus (nums s) (by rw [nums_length]; exact h) hm]; rfl

theorem grown4 (w : World) (s t : ByteArray) (j k : Int) :
    Grown w ((((w.alloc (.cells #[.string s] 9)).alloc (.cells #[.int .i64 j] 3)).alloc (.cells #[.string t] 9)).alloc (.cells #[.int .i64 k] 3)) :=
  ((((Grown.refl w).alloc _ _).alloc _ _).alloc _ _).alloc _ _

set_option maxHeartbeats 1000000 in
theorem lawParse (s : ByteArray) (hs : s.size ≤ maxLen) (w : World) :
    Calls Try.prog 4 #[.string s] w fun e w' => e = .returned (.bool true) ∧ Grown w w' := by
  have hs2 : s.size ≤ 9223372036854775807 := hs
  by_cases hb : s.size ≤ 1048576
  · go_enter Try.func4, Try.ntmps4
    go_wp2_with fail
    refine (bytes10 s hs _).mono ?_
    rintro e w' ⟨rfl, rfl⟩
    go_wp2_with fail
    refine (parse_calls s hs _).mono ?_
    rintro e w' ⟨rfl, k, rfl⟩
    go_wp2_with fail
    refine (parse_calls ((⟨#[45]⟩ : ByteArray) ++ s) (by rw [neg_size]; unfold maxLen; omega) _).mono ?_
    rintro e w' ⟨rfl, k2, rfl⟩
    rw [unsign_of_neg]
    go_wp2_with fail
    refine (signed_calls s hs _).mono ?_
    rintro e w' ⟨rfl, rfl⟩
    by_cases h : 0 < s.size
    · have HC := hide (nums_ch s 0 h)
      by_cases hc : s[0].toNat = 45
      · rw [isNum_minus s h (by rw [HC.out, hc])]
        generalize isNum (unsign s) = b1
        go_wp2_with fail
        all_goals (go_ret; exact ⟨rfl, grown4 _ _ _ _ _⟩)
      · have hc' : ((s[0].toNat : Int) == 45) = false := by simp; omega
        rw [unsign_neg (fun g => hc (by have := g.2; rwa [HC.out] at this))]
        generalize isNum s = b1
        go_wp2_with fail
        all_goals (go_ret; exact ⟨rfl, grown4 _ _ _ _ _⟩)
    · rw [unsign_neg (fun g => h g.1)]
      generalize isNum s = b1
      go_wp2_with fail
      all_goals (go_ret; exact ⟨rfl, grown4 _ _ _ _ _⟩)
  · go_enter Try.func4, Try.ntmps4
    go_wp2_with fail
    refine (bytes10 s hs _).mono ?_
    rintro e w' ⟨rfl, rfl⟩
    go_wp2_with fail
    go_ret
    exact ⟨rfl, Grown.refl _⟩

end Go.Proofs.Qxb6619344a

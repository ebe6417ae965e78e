/-
  THE WALKS of strings.TrimPrefix at the minus (15), ParseNumber (11), zzIsSignedNumber (12), the second size test (10).
-/
import Derived.Test.Qxb6619344aLawScan
namespace Go.Proofs.Qxb6619344a
open Go.RowKit
set_option linter.unusedSimpArgs false

/-- s without one leading minus. -/
def unsign (s : ByteArray) : ByteArray := if 0 < s.size ∧ Num.ch (nums s) 0 = 45 then s.extract 1 s.size else s
/-- Is s, in whole, an unsigned JSON number? -/
def isNum (s : ByteArray) : Bool := decide (0 ≤ Num.run (nums s)) && Num.complete (Num.run (nums s))

theorem unsign_le (s : ByteArray) : (unsign s).size ≤ s.size := by
  unfold unsign; split
  · have := nums_length (s.extract 1 s.size)
    rw [← this]; unfold nums; rw [Lib.extract_data]; simp
  · exact Nat.le_refl _
theorem unsign_pos {s : ByteArray} (h : 0 < s.size ∧ Num.ch (nums s) 0 = 45) : unsign s = s.extract 1 s.size := if_pos h
theorem unsign_neg {s : ByteArray} (h : ¬ (0 < s.size ∧ Num.ch (nums s) 0 = 45)) : unsign s = s := if_neg h

set_option maxHeartbeats 400000 in
theorem bytes10 (s : ByteArray) (hs : s.size ≤ maxLen) (w : World) :
    Calls Try.prog 10 #[.string s] w fun e w' => e = .returned (.bool (decide (s.size ≤ 1048576))) ∧ w' = w := by
  unfold maxLen at hs
  by_cases h : s.size ≤ 1048576
  · go_enter Try.func10, Try.ntmps10
    go_wp2
    go_ret
    exact ⟨ret_bool (by simp [h]), rfl⟩
  · go_enter Try.func10, Try.ntmps10
    go_wp2
    go_ret
    exact ⟨ret_bool (by simp [h]), rfl⟩

set_option maxHeartbeats 400000 in
theorem trim_calls (s : ByteArray) (hs : s.size ≤ maxLen) (w : World) :
    Calls Try.prog 15 #[.string s, .string ⟨#[45]⟩] w fun e w' => e = .returned (.string (unsign s)) ∧ w' = w := by
  unfold maxLen at hs
  by_cases h : 0 < s.size
  · have hx := extract01 s h
    have HC := hide (nums_ch s 0 h)
    by_cases hc : s[0] = 45
    · have hu : unsign s = s.extract 1 s.size := unsign_pos ⟨h, by rw [HC.out, hc]; rfl⟩
      rw [hu]
      rw [hc] at hx
      clear hu hc
      go_enter Try.func15, Try.ntmps15
      go_wp2
      go_ret
      exact ⟨rfl, rfl⟩
    · have hu : unsign s = s := unsign_neg (fun g => hc (by have := g.2; rw [HC.out] at this; exact UInt8.toNat_inj.1 this))
      rw [hu]
      have hx' : ((s.extract 0 1).toList == [45]) = false := by rw [hx]; simp [hc]
      clear hu hc hx
      go_enter Try.func15, Try.ntmps15
      go_wp2
      go_ret
      exact ⟨rfl, rfl⟩
  · rw [unsign_neg (fun g => h g.1)]
    go_enter Try.func15, Try.ntmps15
    go_wp2
    go_ret
    exact ⟨rfl, rfl⟩

set_option maxHeartbeats 400000 in
theorem parse_calls (s : ByteArray) (hs : s.size ≤ maxLen) (w : World) :
    Calls Try.prog 11 #[.string s] w fun e w' => e = .returned (.tuple #[.string s, .bool (isNum (unsign s))]) ∧ ∃ k : Nat, w' = (w.alloc (.cells #[.string (unsign s)] 9)).alloc (.cells #[.int .i64 k] 3) := by
  have hw := Num.whole (nums (unsign s))
  have hle := unsign_le s
  have hs2 : s.size ≤ 9223372036854775807 := hs
  have gle := (Num.scan_good (nums (unsign s))).le
  rw [nums_length] at hw gle
  have HW : Hid (((Num.scan (nums (unsign s))).2 && decide ((Num.scan (nums (unsign s))).1 = (unsign s).size)) = isNum (unsign s)) := hw
  clear hw
  have HT := hide (trim_calls s hs w)
  generalize unsign s = u at *
  have hsc := scan_calls u (Nat.le_trans hle hs) w
  generalize hN : (Num.scan (nums u)).1 = n at *
  generalize hB : (Num.scan (nums u)).2 = b at *
  have HS := hide hsc
  clear hsc hN hB
  cases b with
  | false =>
    go_enter Try.func11, Try.ntmps11
    go_wp2_with fail
    refine HT.out.mono ?_
    rintro e w' ⟨rfl, rfl⟩
    go_wp2_with fail
    refine HS.out.mono ?_
    rintro e w' ⟨rfl, k, rfl⟩
    go_wp2_with fail
    go_ret2
    exact ⟨by rw [← HW.out]; rfl, k, rfl⟩
  | true =>
    by_cases hn : n = u.size
    · have hn' : ((n : Int) == (u.size : Int)) = true := by simp [hn]
      have HN := hide hn
      clear hn
      go_enter Try.func11, Try.ntmps11
      go_wp2_with fail
      refine HT.out.mono ?_
      rintro e w' ⟨rfl, rfl⟩
      go_wp2_with fail
      refine HS.out.mono ?_
      rintro e w' ⟨rfl, k, rfl⟩
      go_wp2_with fail
      go_ret2
      exact ⟨by rw [← HW.out]; simp [HN.out], k, rfl⟩
    · have hn' : ((n : Int) == (u.size : Int)) = false := by simp; omega
      have HN := hide hn
      clear hn
      go_enter Try.func11, Try.ntmps11
      go_wp2_with fail
      refine HT.out.mono ?_
      rintro e w' ⟨rfl, rfl⟩
      go_wp2_with fail
      refine HS.out.mono ?_
      rintro e w' ⟨rfl, k, rfl⟩
      go_wp2_with fail
      go_ret2
      exact ⟨by rw [← HW.out]; simp [HN.out], k, rfl⟩

set_option maxHeartbeats 400000 in
theorem signed_calls (s : ByteArray) (hs : s.size ≤ maxLen) (w : World) :
    Calls Try.prog 12 #[.string s] w fun e w' => e = .returned (.bool (isNum (unsign s))) ∧ w' = w := by
  have hs2 : s.size ≤ 9223372036854775807 := hs
  by_cases h : 0 < s.size
  · have HC := hide (nums_ch s 0 h)
    by_cases hc : s[0].toNat = 45
    · have hu : unsign s = s.extract 1 s.size := unsign_pos ⟨h, by rw [HC.out, hc]⟩
      have hle := unsign_le s
      rw [hu] at hle ⊢
      clear hu
      go_enter Try.func12, Try.ntmps12
      go_wp2_with fail
      refine (run_calls (s.extract 1 s.size) (by first | exact hs | exact Nat.le_trans hle hs) _).mono ?_
      rintro e w' ⟨rfl, rfl⟩
      generalize hst : Num.run (nums (s.extract 1 s.size)) = st
      have HST := hide hst
      clear hst
      by_cases h0 : 0 ≤ st
      · go_wp2_with fail
        refine (complete_calls st _).mono ?_
        rintro e w' ⟨rfl, rfl⟩
        go_wp2_with fail
        go_ret
        exact ⟨ret_bool (by unfold isNum; rw [HST.out]; simp [h0]), rfl⟩
      · go_wp2_with fail
        go_ret
        exact ⟨ret_bool (by unfold isNum; rw [HST.out]; rw [decide_eq_false (by omega)]; rfl), rfl⟩
    · rw [unsign_neg (fun g => hc (by have := g.2; rwa [HC.out] at this))]
      have hc' : ((s[0].toNat : Int) == 45) = false := by simp; omega
      go_enter Try.func12, Try.ntmps12
      go_wp2_with fail
      refine (run_calls s (by first | exact hs | exact Nat.le_trans hle hs) _).mono ?_
      rintro e w' ⟨rfl, rfl⟩
      generalize hst : Num.run (nums s) = st
      have HST := hide hst
      clear hst
      by_cases h0 : 0 ≤ st
      · go_wp2_with fail
        refine (complete_calls st _).mono ?_
        rintro e w' ⟨rfl, rfl⟩
        go_wp2_with fail
        go_ret
        exact ⟨ret_bool (by unfold isNum; rw [HST.out]; simp [h0]), rfl⟩
      · go_wp2_with fail
        go_ret
        exact ⟨ret_bool (by unfold isNum; rw [HST.out]; rw [decide_eq_false (by omega)]; rfl), rfl⟩
  · rw [unsign_neg (fun g => h g.1)]
    go_enter Try.func12, Try.ntmps12
    go_wp2_with fail
    refine (run_calls s (by first | exact hs | exact Nat.le_trans hle hs) _).mono ?_
    rintro e w' ⟨rfl, rfl⟩
    generalize hst : Num.run (nums s) = st
    have HST := hide hst
    clear hst
    by_cases h0 : 0 ≤ st
    · go_wp2_with fail
      refine (complete_calls st _).mono ?_
      rintro e w' ⟨rfl, rfl⟩
      go_wp2_with fail
      go_ret
      exact ⟨ret_bool (by unfold isNum; rw [HST.out]; simp [h0]), rfl⟩
    · go_wp2_with fail
      go_ret
      exact ⟨ret_bool (by unfold isNum; rw [HST.out]; rw [decide_eq_false (by omega)]; rfl), rfl⟩

end Go.Proofs.Qxb6619344a

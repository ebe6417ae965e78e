/-
  THE WALKS of the small functions of seat b6619344a: zzNumStep (8), zzNumComplete (9).
-/
import Derived.Test.Qxb6619344aRows
import Derived.Test.Qxb6619344aPlain
import Derived.WalkKit
import Derived.WalkSpells
import Derived.WalkLawsBesides
import Derived.Deep.Light
namespace Go.Proofs.Qxb6619344a
open Go.RowKit
set_option linter.unusedSimpArgs false

theorem ret_int {k : IntKind} {a b : Int} (h : a = b) : Ending.returned (.int k a) = .returned (.int k b) := by rw [h]
theorem ret_bool {a b : Bool} (h : a = b) : Ending.returned (.bool a) = .returned (.bool b) := by rw [h]

/-! ### zzNumStep, a state at a time -/
theorem step_0 (c : Nat) : Num.step 0 c = if c = 48 then 1 else if 48 ≤ c ∧ c ≤ 57 then 2 else -1 := by simp [Num.step, Num.dig]
theorem step_1 (c : Nat) : Num.step 1 c = if c = 46 then 3 else if c = 101 ∨ c = 69 then 5 else -1 := by simp [Num.step, Num.expMark]
theorem step_2 (c : Nat) : Num.step 2 c = if 48 ≤ c ∧ c ≤ 57 then 2 else if c = 46 then 3 else if c = 101 ∨ c = 69 then 5 else -1 := by simp [Num.step, Num.dig, Num.expMark]
theorem step_3 (c : Nat) : Num.step 3 c = if 48 ≤ c ∧ c ≤ 57 then 4 else -1 := by simp [Num.step, Num.dig]
theorem step_4 (c : Nat) : Num.step 4 c = if 48 ≤ c ∧ c ≤ 57 then 4 else if c = 101 ∨ c = 69 then 5 else -1 := by simp [Num.step, Num.dig, Num.expMark]
theorem step_5 (c : Nat) : Num.step 5 c = if c = 43 ∨ c = 45 then 6 else if 48 ≤ c ∧ c ≤ 57 then 7 else -1 := by simp [Num.step, Num.dig, Num.sign]
theorem step_6 (c : Nat) : Num.step 6 c = if 48 ≤ c ∧ c ≤ 57 then 7 else -1 := by simp [Num.step, Num.dig]
theorem step_7 (c : Nat) : Num.step 7 c = if 48 ≤ c ∧ c ≤ 57 then 7 else -1 := by simp [Num.step, Num.dig]
set_option maxHeartbeats 1000000 in
theorem step_calls0 (c : Int) (h0 : 0 ≤ c) (h1 : c ≤ 255) (w : World) :
    Calls Try.prog 8 #[.int .i64 0, .int .u8 c] w fun e w' => e = .returned (.int .i64 (Num.step 0 c.toNat)) ∧ w' = w := by
  go_enter Try.func8, Try.ntmps8
  go_wp2
  all_goals go_ret
  all_goals (refine ⟨ret_int ?_, rfl⟩; go_light; rw [step_0]; try simp only [beq_iff_eq, beq_eq_false_iff_ne, Bool.or_eq_true, Bool.or_eq_false_iff] at *)
  all_goals (repeat' split)
  all_goals omega
set_option maxHeartbeats 1000000 in
theorem step_calls1 (c : Int) (h0 : 0 ≤ c) (h1 : c ≤ 255) (w : World) :
    Calls Try.prog 8 #[.int .i64 1, .int .u8 c] w fun e w' => e = .returned (.int .i64 (Num.step 1 c.toNat)) ∧ w' = w := by
  go_enter Try.func8, Try.ntmps8
  go_wp2
  all_goals go_ret
  all_goals (refine ⟨ret_int ?_, rfl⟩; go_light; rw [step_1]; try simp only [beq_iff_eq, beq_eq_false_iff_ne, Bool.or_eq_true, Bool.or_eq_false_iff] at *)
  all_goals (repeat' split)
  all_goals omega
set_option maxHeartbeats 1000000 in
theorem step_calls2 (c : Int) (h0 : 0 ≤ c) (h1 : c ≤ 255) (w : World) :
    Calls Try.prog 8 #[.int .i64 2, .int .u8 c] w fun e w' => e = .returned (.int .i64 (Num.step 2 c.toNat)) ∧ w' = w := by
  go_enter Try.func8, Try.ntmps8
  go_wp2
  all_goals go_ret
  all_goals (refine ⟨ret_int ?_, rfl⟩; go_light; rw [step_2]; try simp only [beq_iff_eq, beq_eq_false_iff_ne, Bool.or_eq_true, Bool.or_eq_false_iff] at *)
  all_goals (repeat' split)
  all_goals omega
set_option maxHeartbeats 1000000 in
theorem step_calls3 (c : Int) (h0 : 0 ≤ c) (h1 : c ≤ 255) (w : World) :
    Calls Try.prog 8 #[.int .i64 3, .int .u8 c] w fun e w' => e = .returned (.int .i64 (Num.step 3 c.toNat)) ∧ w' = w := by
  go_enter Try.func8, Try.ntmps8
  go_wp2
  all_goals go_ret
  all_goals (refine ⟨ret_int ?_, rfl⟩; go_light; rw [step_3]; try simp only [beq_iff_eq, beq_eq_false_iff_ne, Bool.or_eq_true, Bool.or_eq_false_iff] at *)
  all_goals (repeat' split)
  all_goals omega
set_option maxHeartbeats 1000000 in
theorem step_calls4 (c : Int) (h0 : 0 ≤ c) (h1 : c ≤ 255) (w : World) :
    Calls Try.prog 8 #[.int .i64 4, .int .u8 c] w fun e w' => e = .returned (.int .i64 (Num.step 4 c.toNat)) ∧ w' = w := by
  go_enter Try.func8, Try.ntmps8
  go_wp2
  all_goals go_ret
  all_goals (refine ⟨ret_int ?_, rfl⟩; go_light; rw [step_4]; try simp only [beq_iff_eq, beq_eq_false_iff_ne, Bool.or_eq_true, Bool.or_eq_false_iff] at *)
  all_goals (repeat' split)
  all_goals omega
set_option maxHeartbeats 1000000 in
theorem step_calls5 (c : Int) (h0 : 0 ≤ c) (h1 : c ≤ 255) (w : World) :
    Calls Try.prog 8 #[.int .i64 5, .int .u8 c] w fun e w' => e = .returned (.int .i64 (Num.step 5 c.toNat)) ∧ w' = w := by
  go_enter Try.func8, Try.ntmps8
  go_wp2
  all_goals go_ret
  all_goals (refine ⟨ret_int ?_, rfl⟩; go_light; rw [step_5]; try simp only [beq_iff_eq, beq_eq_false_iff_ne, Bool.or_eq_true, Bool.or_eq_false_iff] at *)
  all_goals (repeat' split)
  all_goals (first | omega | simp_all)
set_option maxHeartbeats 1000000 in
theorem step_calls6 (c : Int) (h0 : 0 ≤ c) (h1 : c ≤ 255) (w : World) :
    Calls Try.prog 8 #[.int .i64 6, .int .u8 c] w fun e w' => e = .returned (.int .i64 (Num.step 6 c.toNat)) ∧ w' = w := by
  go_enter Try.func8, Try.ntmps8
  go_wp2
  all_goals go_ret
  all_goals (refine ⟨ret_int ?_, rfl⟩; go_light; rw [step_6]; try simp only [beq_iff_eq, beq_eq_false_iff_ne, Bool.or_eq_true, Bool.or_eq_false_iff] at *)
  all_goals (repeat' split)
  all_goals omega
set_option maxHeartbeats 1000000 in
theorem step_calls7 (c : Int) (h0 : 0 ≤ c) (h1 : c ≤ 255) (w : World) :
    Calls Try.prog 8 #[.int .i64 7, .int .u8 c] w fun e w' => e = .returned (.int .i64 (Num.step 7 c.toNat)) ∧ w' = w := by
  go_enter Try.func8, Try.ntmps8
  go_wp2
  all_goals go_ret
  all_goals (refine ⟨ret_int ?_, rfl⟩; go_light; rw [step_7]; try simp only [beq_iff_eq, beq_eq_false_iff_ne, Bool.or_eq_true, Bool.or_eq_false_iff] at *)
  all_goals (repeat' split)
  all_goals omega
set_option maxHeartbeats 1000000 in
theorem step_calls_else (st c : Int) (hst : st < 0 ∨ 7 < st) (h0 : 0 ≤ c) (h1 : c ≤ 255) (w : World) :
    Calls Try.prog 8 #[.int .i64 st, .int .u8 c] w fun e w' => e = .returned (.int .i64 (Num.step st c.toNat)) ∧ w' = w := by
  have e : Num.step st c.toNat = -1 := by
    simp only [Num.step]
    rw [if_neg (by omega), if_neg (by omega), if_neg (by omega), if_neg (by omega), if_neg (by omega), if_neg (by omega), if_neg (by omega)]
  rw [e]
  have g0 : (st == 0) = false := by simp; omega
  have g1 : (st == 1) = false := by simp; omega
  have g2 : (st == 2) = false := by simp; omega
  have g3 : (st == 3) = false := by simp; omega
  have g4 : (st == 4) = false := by simp; omega
  have g5 : (st == 5) = false := by simp; omega
  have g6 : (st == 6) = false := by simp; omega
  have g7 : (st == 7) = false := by simp; omega
  clear e hst
  go_enter Try.func8, Try.ntmps8
  go_wp2
  all_goals go_ret
  all_goals exact ⟨rfl, rfl⟩

/-- zzNumStep: at every state and byte the plain step. -/
theorem step_calls (st c : Int) (h0 : 0 ≤ c) (h1 : c ≤ 255) (w : World) :
    Calls Try.prog 8 #[.int .i64 st, .int .u8 c] w fun e w' => e = .returned (.int .i64 (Num.step st c.toNat)) ∧ w' = w := by
  by_cases hst : st < 0 ∨ 7 < st
  · exact step_calls_else st c hst h0 h1 w
  · have h : st = 0 ∨ st = 1 ∨ st = 2 ∨ st = 3 ∨ st = 4 ∨ st = 5 ∨ st = 6 ∨ st = 7 := by omega
    rcases h with rfl | rfl | rfl | rfl | rfl | rfl | rfl | rfl
    · exact step_calls0 c h0 h1 w
    · exact step_calls1 c h0 h1 w
    · exact step_calls2 c h0 h1 w
    · exact step_calls3 c h0 h1 w
    · exact step_calls4 c h0 h1 w
    · exact step_calls5 c h0 h1 w
    · exact step_calls6 c h0 h1 w
    · exact step_calls7 c h0 h1 w

/-! ### zzNumComplete -/
set_option maxHeartbeats 1000000 in
theorem complete_calls (st : Int) (w : World) :
    Calls Try.prog 9 #[.int .i64 st] w fun e w' => e = .returned (.bool (Num.complete st)) ∧ w' = w := by
  go_enter Try.func9, Try.ntmps9
  go_wp2
  all_goals go_ret
  all_goals go_light
  all_goals (refine ⟨ret_bool ?_, rfl⟩; rw [Bool.eq_iff_iff]; simp [Num.complete])
  all_goals omega

end Go.Proofs.Qxb6619344a

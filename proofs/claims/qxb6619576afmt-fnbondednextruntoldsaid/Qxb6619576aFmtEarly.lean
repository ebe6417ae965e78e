/-
  Seat b6619576aF: the law FnBondedNextRun (3): where it answers true at once.
-/
import Derived.Test.Qxb6619576aFmtNext
namespace Go.Proofs.Qxb6619576aFmt
open Go.RowKit
set_option linter.unusedSimpArgs false
attribute [local go_sem] run_store_float

/-- The arguments that the law goes on with. -/
structure Good (tol rise : Nat) (window every : Int) (n m : Nat) : Prop where
  n4 : n ≤ 4096
  m4 : m ≤ 4096
  t1 : ¬ FloatKind.f64.format.order tol 0 = some .lt
  t2 : FloatKind.f64.format.order tol tol = some .eq
  r1 : ¬ FloatKind.f64.format.order rise 4607182418800017408 = some .lt
  r2 : FloatKind.f64.format.order rise rise = some .eq
  w1 : 1 ≤ window
  e1 : 1 ≤ every
  wn : window ≤ n

theorem beq_lt_true {o : Option Ordering} {p : Ordering} (h : o = some p) : (o == some p) = true := by rw [h]; cases p <;> rfl
theorem beq_lt_false {o : Option Ordering} {p : Ordering} (h : ¬ o = some p) : (o == some p) = false := by rw [beq_eq_false_iff_ne]; exact h
theorem bne_true {o : Option Ordering} {p : Ordering} (h : ¬ o = some p) : (o != some p) = true := by rw [bne_iff_ne]; exact h

set_option maxRecDepth 100000 in
set_option maxHeartbeats 2000000 in
theorem early_size (tol rise target : Nat) (window every : Int) (a c : Option Addr) (n n' m m' : Nat) (hn : n ≤ maxLen) (hm : m ≤ maxLen) (w : World) (h : ¬ (n ≤ 4096 ∧ m ≤ 4096)) :
    Calls Tryf.prog 3 #[.float .f64 tol, .float .f64 rise, .int .i64 window, .int .i64 every, .slice a n n', .slice c m m', .float .f64 target] w fun e w' => e = .returned (.bool true) ∧ w' = w := by
  have hn2 : n ≤ 9223372036854775807 := hn
  have hm2 : m ≤ 9223372036854775807 := hm
  by_cases hb : n + m ≤ 1048576
  · by_cases h1 : n ≤ 4096
    · have h2 : ¬ m ≤ 4096 := fun g => h ⟨h1, g⟩
      go_enter Tryf.func3, Tryf.ntmps3
      go_wp2_with fail
      refine (bytes_calls tol rise target window every a c n n' m m' hn hm _).mono ?_
      rintro e w' ⟨rfl, rfl⟩
      go_wp2_with fail
      go_ret
      exact ⟨rfl, rfl⟩
    · go_enter Tryf.func3, Tryf.ntmps3
      go_wp2_with fail
      refine (bytes_calls tol rise target window every a c n n' m m' hn hm _).mono ?_
      rintro e w' ⟨rfl, rfl⟩
      go_wp2_with fail
      go_ret
      exact ⟨rfl, rfl⟩
  · go_enter Tryf.func3, Tryf.ntmps3
    go_wp2_with fail
    refine (bytes_calls tol rise target window every a c n n' m m' hn hm _).mono ?_
    rintro e w' ⟨rfl, rfl⟩
    go_wp2_with fail
    go_ret
    exact ⟨rfl, rfl⟩

set_option maxRecDepth 100000 in
set_option maxHeartbeats 2000000 in
theorem early_rest (tol rise target : Nat) (window every : Int) (a c : Option Addr) (n n' m m' : Nat) (hn : n ≤ 4096) (hm : m ≤ 4096) (w : World) (h : ¬ Good tol rise window every n m) :
    Calls Tryf.prog 3 #[.float .f64 tol, .float .f64 rise, .int .i64 window, .int .i64 every, .slice a n n', .slice c m m', .float .f64 target] w fun e w' => e = .returned (.bool true) ∧ w' = w := by
  have hb : n + m ≤ 1048576 := by omega
  have HB := hide (bytes_calls tol rise target window every a c n n' m m' (Nat.le_trans hn (by decide)) (Nat.le_trans hm (by decide)) w)
  by_cases t1 : FloatKind.f64.format.order tol 0 = some .lt
  · go_enter Tryf.func3, Tryf.ntmps3
    go_wp2_with fail
    refine HB.out.mono ?_
    rintro e w' ⟨rfl, rfl⟩
    go_wp2_with fail
    go_ret
    exact ⟨rfl, rfl⟩
  · have t1' := beq_lt_false t1
    by_cases t2 : FloatKind.f64.format.order tol tol = some .eq
    · by_cases r1 : FloatKind.f64.format.order rise 4607182418800017408 = some .lt
      · clear t1
        go_enter Tryf.func3, Tryf.ntmps3
        go_wp2_with fail
        refine HB.out.mono ?_
        rintro e w' ⟨rfl, rfl⟩
        go_wp2_with fail
        go_ret
        exact ⟨rfl, rfl⟩
      · have r1' := beq_lt_false r1
        by_cases r2 : FloatKind.f64.format.order rise rise = some .eq
        · have h3 : window < 1 ∨ every < 1 ∨ (n : Int) < window := by
            by_cases a1 : window < 1
            · exact Or.inl a1
            · by_cases a2 : every < 1
              · exact Or.inr (Or.inl a2)
              · right; right
                rcases (show (n : Int) < window ∨ window ≤ (n : Int) by omega) with g | g
                · exact g
                · exact absurd ⟨hn, hm, t1, t2, r1, r2, by omega, by omega, g⟩ h
          clear t1 r1 h
          by_cases a1 : window < 1
          · clear h3
            go_enter Tryf.func3, Tryf.ntmps3
            go_wp2_with fail
            refine HB.out.mono ?_
            rintro e w' ⟨rfl, rfl⟩
            go_wp2_with fail
            go_ret
            exact ⟨rfl, rfl⟩
          · by_cases a2 : every < 1
            · clear h3
              go_enter Tryf.func3, Tryf.ntmps3
              go_wp2_with fail
              refine HB.out.mono ?_
              rintro e w' ⟨rfl, rfl⟩
              go_wp2_with fail
              go_ret
              exact ⟨rfl, rfl⟩
            · have a3 : (n : Int) < window := by omega
              clear h3
              go_enter Tryf.func3, Tryf.ntmps3
              go_wp2_with fail
              refine HB.out.mono ?_
              rintro e w' ⟨rfl, rfl⟩
              go_wp2_with fail
              go_ret
              exact ⟨rfl, rfl⟩
        · have r2' := bne_true r2
          clear t1 r1 r2 h
          go_enter Tryf.func3, Tryf.ntmps3
          go_wp2_with fail
          refine HB.out.mono ?_
          rintro e w' ⟨rfl, rfl⟩
          go_wp2_with fail
          go_ret
          exact ⟨rfl, rfl⟩
    · have t2' := bne_true t2
      clear t1 t2 h
      go_enter Tryf.func3, Tryf.ntmps3
      go_wp2_with fail
      refine HB.out.mono ?_
      rintro e w' ⟨rfl, rfl⟩
      go_wp2_with fail
      go_ret
      exact ⟨rfl, rfl⟩

end Go.Proofs.Qxb6619576aFmt

/-
  Seat b6619576aF: PLAIN: the operations on words of binary64 that are not negative and no NaN. No Go in sight.
-/
import Derived.Test.Qxb6619576aFmtFl
namespace Go.Proofs.Qxb6619576aFmt.Fl

theorem d_lp : Ieee.double.leastPlace = -1074 := by decide
theorem d_bin : Ieee.double.binade = 4503599627370496 := by decide
theorem d_inf : Ieee.double.infRung = INF := by decide
theorem d_sw : Ieee.double.signWeight = 9223372036854775808 := by decide
theorem INF_eq : INF = 9218868437227405312 := rfl
theorem ONE_eq : ONE = 4607182418800017408 := rfl

/-! ### reading -/
theorem read_fin {x : Nat} (h : x < INF) : Ieee.double.read x = .number false (sig x) ((ex x : Int) - 1074) := by
  rw [INF_eq] at h
  have h1 : x / 9223372036854775808 % 2 = 0 := by omega
  have h2 : x % 9223372036854775808 = x := by omega
  simp only [Ieee.Format.read, d_lp, d_bin, d_inf, d_sw, INF_eq, h1, h2]
  unfold sig ex
  by_cases hb : x < 4503599627370496
  · rw [if_pos hb, if_pos hb, if_pos hb]; rfl
  · rw [if_neg hb, if_pos h, if_neg hb, if_neg hb]
    rw [show (-1074 : Int) + ((x / 4503599627370496 - 1 : Nat) : Int) = ((x / 4503599627370496 - 1 : Nat) : Int) - 1074 from by omega]
    rfl
theorem read_inf : Ieee.double.read INF = .infinity false := by decide
theorem read_neg {u : Nat} (h : u < INF) : Ieee.double.read (9223372036854775808 + u) = .number true (sig u) ((ex u : Int) - 1074) := by
  rw [INF_eq] at h
  have h1 : (9223372036854775808 + u) / 9223372036854775808 % 2 = 1 := by omega
  have h2 : (9223372036854775808 + u) % 9223372036854775808 = u := by omega
  simp only [Ieee.Format.read, d_lp, d_bin, d_inf, d_sw, INF_eq, h1, h2]
  unfold sig ex
  by_cases hb : u < 4503599627370496
  · rw [if_pos hb, if_pos hb, if_pos hb]; rfl
  · rw [if_neg hb, if_pos h, if_neg hb, if_neg hb]
    rw [show (-1074 : Int) + ((u / 4503599627370496 - 1 : Nat) : Int) = ((u / 4503599627370496 - 1 : Nat) : Int) - 1074 from by omega]
    rfl
theorem read_ninf : Ieee.double.read (9223372036854775808 + INF) = .infinity true := by decide
theorem read_nan {x : Nat} (h : INF < x % 9223372036854775808) : ∃ s f, Ieee.double.read x = .nan s f := by
  rw [INF_eq] at h
  simp only [Ieee.Format.read, d_lp, d_bin, d_inf, d_sw, INF_eq]
  rw [if_neg (by omega), if_neg (by omega), if_neg (by omega)]
  exact ⟨_, _, rfl⟩

/-! ### the order -/
theorem cmp_lt {a b : Int} (h : a < b) : compare a b = .lt := by simp [compare, compareOfLessAndEq, h]
theorem cmp_gt {a b : Int} (h : b < a) : compare a b = .gt := by
  have h1 : ¬ a < b := by omega
  have h2 : ¬ a = b := by omega
  simp [compare, compareOfLessAndEq, h1, h2]
theorem cmp_eq (a : Int) : compare a a = .eq := by simp [compare, compareOfLessAndEq]

theorem scale (x : Nat) (b : Nat) (h : b ≤ ex x) : (sig x <<< (ex x - b)) * 2 ^ b = val x := by
  rw [Nat.shiftLeft_eq, Nat.mul_assoc, ← Nat.pow_add, Nat.sub_add_cancel h]; rfl
theorem order_num {x y : Nat} (hx : x < INF) (hy : y < INF) :
    Ieee.double.order x y = some (compare ((sig x <<< (ex x - min (ex x) (ex y)) : Nat) : Int) ((sig y <<< (ex y - min (ex x) (ex y)) : Nat) : Int)) := by
  simp only [Ieee.Format.order, read_fin hx, read_fin hy, Ieee.Datum.order, Ieee.signed, Bool.false_eq_true, if_false]
  have e1 : ((ex x : Int) - 1074 - min ((ex x : Int) - 1074) ((ex y : Int) - 1074)).toNat = ex x - min (ex x) (ex y) := by omega
  have e2 : ((ex y : Int) - 1074 - min ((ex x : Int) - 1074) ((ex y : Int) - 1074)).toNat = ex y - min (ex x) (ex y) := by omega
  rw [e1, e2]
theorem order_lt {x y : Nat} (h : x < y) (hy : y ≤ INF) : Ieee.double.order x y = some .lt := by
  have hx : x < INF := Nat.lt_of_lt_of_le h hy
  by_cases hi : y = INF
  · subst hi
    simp only [Ieee.Format.order, read_fin hx, read_inf, Ieee.Datum.order]; rfl
  · have hy' : y < INF := by omega
    rw [order_num hx hy']
    have h1 := scale x (min (ex x) (ex y)) (by omega)
    have h2 := scale y (min (ex x) (ex y)) (by omega)
    have h3 := val_lt h
    rw [← h1, ← h2] at h3
    rw [cmp_lt]
    have := Nat.lt_of_mul_lt_mul_right h3
    omega
theorem order_self {x : Nat} (h : x ≤ INF) : Ieee.double.order x x = some .eq := by
  by_cases hi : x = INF
  · subst hi; simp only [Ieee.Format.order, read_inf, Ieee.Datum.order]; rfl
  · rw [order_num (by omega) (by omega), cmp_eq]
theorem order_gt {x y : Nat} (h : y < x) (hx : x ≤ INF) : Ieee.double.order x y = some .gt := by
  have hy : y < INF := Nat.lt_of_lt_of_le h hx
  by_cases hi : x = INF
  · subst hi
    simp only [Ieee.Format.order, read_fin hy, read_inf, Ieee.Datum.order]; rfl
  · have hx' : x < INF := by omega
    rw [order_num hx' hy]
    have h1 := scale x (min (ex x) (ex y)) (by omega)
    have h2 := scale y (min (ex x) (ex y)) (by omega)
    have h3 := val_lt h
    rw [← h1, ← h2] at h3
    rw [cmp_gt]
    have := Nat.lt_of_mul_lt_mul_right h3
    omega

theorem sig_pos {u : Nat} (h : 0 < u) : 0 < sig u := by unfold sig; split <;> omega
theorem shl_pos {m k : Nat} (h : 0 < m) : 0 < m <<< k := by rw [Nat.shiftLeft_eq]; exact Nat.mul_pos h (pow_pos k)

/-- A word below 2 ^ 64 that is no NaN: not negative; or minus zero; or below every word that is not negative. -/
theorem kinds {x : Nat} (h : x < 18446744073709551616) (hn : Ieee.double.order x x = some .eq) : x ≤ INF ∨ x = 9223372036854775808 ∨ ∀ y, y ≤ INF → Ieee.double.order x y = some .lt := by
  rcases Nat.lt_or_ge INF (x % 9223372036854775808) with hr | hr
  · obtain ⟨s, f, e⟩ := read_nan hr
    simp only [Ieee.Format.order, e, Ieee.Datum.order] at hn
    cases hn
  · rcases Nat.lt_or_ge x 9223372036854775808 with hs | hs
    · left; omega
    · right
      obtain ⟨u, rfl⟩ : ∃ u, x = 9223372036854775808 + u := ⟨x - 9223372036854775808, by omega⟩
      have hu : u ≤ INF := by omega
      by_cases h0 : u = 0
      · left; subst h0; rfl
      · right
        intro y hy
        by_cases hi : u = INF
        · subst hi
          by_cases hyi : y = INF
          · subst hyi; simp only [Ieee.Format.order, read_ninf, read_inf, Ieee.Datum.order]; rfl
          · simp only [Ieee.Format.order, read_ninf, read_fin (show y < INF by omega), Ieee.Datum.order]; rfl
        · by_cases hyi : y = INF
          · subst hyi; simp only [Ieee.Format.order, read_neg (show u < INF by omega), read_inf, Ieee.Datum.order]; rfl
          · simp only [Ieee.Format.order, read_neg (show u < INF by omega), read_fin (show y < INF by omega), Ieee.Datum.order, Ieee.signed, Bool.false_eq_true, if_false, if_true]
            rw [cmp_lt]
            have := shl_pos (k := ((ex u : Int) - 1074 - min ((ex u : Int) - 1074) ((ex y : Int) - 1074)).toNat) (sig_pos (show 0 < u by omega))
            generalize sig u <<< ((ex u : Int) - 1074 - min ((ex u : Int) - 1074) ((ex y : Int) - 1074)).toNat = p at *
            generalize sig y <<< ((ex y : Int) - 1074 - min ((ex u : Int) - 1074) ((ex y : Int) - 1074)).toNat = q at *
            omega

theorem order_mz {y : Nat} (h : y ≤ INF) (h0 : 0 < y) : Ieee.double.order 9223372036854775808 y = some .lt := by
  have e : Ieee.double.read 9223372036854775808 = .number true 0 (-1074) := by decide
  by_cases hi : y = INF
  · subst hi; simp only [Ieee.Format.order, e, read_inf, Ieee.Datum.order]; rfl
  · simp only [Ieee.Format.order, e, read_fin (show y < INF by omega), Ieee.Datum.order, Ieee.signed, Bool.false_eq_true, if_false, if_true, Nat.zero_shiftLeft]
    rw [cmp_lt]
    have := shl_pos (k := ((ex y : Int) - 1074 - min (-1074) ((ex y : Int) - 1074)).toNat) (sig_pos h0)
    omega


/-! ### sums -/
def addW (x y : Nat) : Nat := (Ieee.double.add x y).getD 0
def mulW (x y : Nat) : Nat := (Ieee.double.mul x y).getD 0
def subW (x y : Nat) : Nat := (Ieee.double.sub x y).getD 0
def divW (x y : Nat) : Nat := (Ieee.double.div x y).getD 0

theorem val_zero : val 0 = 0 := by simp [val, sig, ex]
theorem val_pos {x : Nat} (h : 0 < x) : 0 < val x := by have := val_lt h; omega
theorem pos_of_val {x : Nat} (h : 0 < val x) : 0 < x := by
  rcases Nat.eq_zero_or_pos x with e | e
  · subst e; rw [val_zero] at h; omega
  · exact e

theorem add_fin {x y : Nat} (hx : x < INF) (hy : y < INF) : ∃ mag : Nat, mag * 2 ^ (min (ex x) (ex y)) = val x + val y ∧ Ieee.double.add x y = some (Ieee.double.nearest false mag ((min (ex x) (ex y) : Nat) - 1074)) := by
  have e1 : ((ex x : Int) - 1074 - min ((ex x : Int) - 1074) ((ex y : Int) - 1074)).toNat = ex x - min (ex x) (ex y) := by omega
  have e2 : ((ex y : Int) - 1074 - min ((ex x : Int) - 1074) ((ex y : Int) - 1074)).toNat = ex y - min (ex x) (ex y) := by omega
  have h1 := scale x (min (ex x) (ex y)) (by omega)
  have h2 := scale y (min (ex x) (ex y)) (by omega)
  refine ⟨sig x <<< (ex x - min (ex x) (ex y)) + sig y <<< (ex y - min (ex x) (ex y)), by rw [Nat.add_mul, h1, h2], ?_⟩
  simp only [Ieee.Format.add, read_fin hx, read_fin hy, Ieee.Datum.sum, Ieee.signed, Bool.false_eq_true, if_false, Option.map_some, e1, e2]
  generalize sig x <<< (ex x - min (ex x) (ex y)) = p
  generalize sig y <<< (ex y - min (ex x) (ex y)) = q
  have e3 : ((p : Int) + (q : Int)).natAbs = p + q := by omega
  have e4 : (if (p : Int) + (q : Int) = 0 then (false && false) else decide ((p : Int) + (q : Int) < 0)) = false := by
    split
    · rfl
    · exact decide_eq_false (by omega)
  have e5 : min ((ex x : Int) - 1074) ((ex y : Int) - 1074) = ((min (ex x) (ex y) : Nat) : Int) - 1074 := by omega
  simp only [e3, e4, e5, Ieee.Format.write]

theorem near_zero (place : Int) : Ieee.double.nearest false 0 place = 0 := by
  simp only [Ieee.Format.nearest, Ieee.Format.word, Bool.false_eq_true, if_false]
  rfl

theorem add_some {x y : Nat} (hx : x ≤ INF) (hy : y ≤ INF) : Ieee.double.add x y = some (addW x y) ∧ addW x y ≤ INF := by
  by_cases hxi : x = INF
  · subst hxi
    by_cases hyi : y = INF
    · subst hyi
      have : Ieee.double.add INF INF = some INF := by decide
      unfold addW; rw [this]; exact ⟨rfl, Nat.le_refl _⟩
    · have e : Ieee.double.add INF y = some INF := by
        simp only [Ieee.Format.add, read_inf, read_fin (show y < INF by omega), Ieee.Datum.sum, Option.map_some]; decide
      unfold addW; rw [e]; exact ⟨rfl, Nat.le_refl _⟩
  · by_cases hyi : y = INF
    · subst hyi
      have e : Ieee.double.add x INF = some INF := by
        simp only [Ieee.Format.add, read_inf, read_fin (show x < INF by omega), Ieee.Datum.sum, Option.map_some]; decide
      unfold addW; rw [e]; exact ⟨rfl, Nat.le_refl _⟩
    · obtain ⟨mag, _, e⟩ := add_fin (show x < INF by omega) (show y < INF by omega)
      unfold addW; rw [e]; exact ⟨rfl, near_le _ _⟩
theorem add_inf_left {y : Nat} (hy : y ≤ INF) : addW INF y = INF := by
  by_cases hyi : y = INF
  · subst hyi
    have : Ieee.double.add INF INF = some INF := by decide
    unfold addW; rw [this]; rfl
  · have e : Ieee.double.add INF y = some INF := by
      simp only [Ieee.Format.add, read_inf, read_fin (show y < INF by omega), Ieee.Datum.sum, Option.map_some]; decide
    unfold addW; rw [e]; rfl
theorem add_inf_right {x : Nat} (hx : x ≤ INF) : addW x INF = INF := by
  by_cases hxi : x = INF
  · subst hxi; exact add_inf_left (Nat.le_refl _)
  · have e : Ieee.double.add x INF = some INF := by
      simp only [Ieee.Format.add, read_inf, read_fin (show x < INF by omega), Ieee.Datum.sum, Option.map_some]; decide
    unfold addW; rw [e]; rfl
theorem add_lo {x y : Nat} (hx : x ≤ INF) (hy : y ≤ INF) (a e : Nat) (ha : a ≤ 9007199254740992) (h : a * 2 ^ e ≤ val x + val y) : addW x y = INF ∨ a * 2 ^ e ≤ val (addW x y) := by
  by_cases hxi : x = INF
  · subst hxi; exact Or.inl (add_inf_left hy)
  · by_cases hyi : y = INF
    · subst hyi; exact Or.inl (add_inf_right hx)
    · obtain ⟨mag, hm, he⟩ := add_fin (show x < INF by omega) (show y < INF by omega)
      have hr : addW x y = Ieee.double.nearest false mag ((min (ex x) (ex y) : Nat) - 1074) := by unfold addW; rw [he]; rfl
      rw [hr]
      by_cases h0 : mag = 0
      · subst h0
        rw [near_zero]
        right
        rw [Nat.zero_mul] at hm
        omega
      · refine near_lo mag _ (min (ex x) (ex y)) 0 (by omega) (by omega) a e ha ?_
        rw [hm, Nat.pow_zero, Nat.mul_one]; exact h
theorem add_pos {x y : Nat} (hx : x ≤ INF) (hy : y ≤ INF) (h : 0 < y) : 0 < addW x y := by
  rcases add_lo hx hy 1 0 (by omega) (by have := val_pos h; omega) with e | e
  · rw [e, INF_eq]; omega
  · exact pos_of_val (by omega)

end Go.Proofs.Qxb6619576aFmt.Fl

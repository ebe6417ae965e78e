/-
  Seat b6619576aF: PLAIN: the words of binary64 that are not negative and no NaN, as numbers; rounding from below and from above. No Go in sight.
  'val r': what the word r stands for, counted in the least subnormal number (the word of infinity counted on as the next power of two).
-/
import Ieee.Arith
namespace Go.Proofs.Qxb6619576aFmt.Fl

/-- The word of infinity. -/
def INF : Nat := 9218868437227405312
/-- The word of 1. -/
def ONE : Nat := 4607182418800017408

def sig (r : Nat) : Nat := if r < 4503599627370496 then r else 4503599627370496 + r % 4503599627370496
def ex (r : Nat) : Nat := if r < 4503599627370496 then 0 else r / 4503599627370496 - 1
def val (r : Nat) : Nat := sig r * 2 ^ ex r

theorem sig_lt (r : Nat) : sig r < 9007199254740992 := by unfold sig; split <;> omega
theorem pow_pos (k : Nat) : 0 < 2 ^ k := Nat.two_pow_pos k

theorem val_succ (r : Nat) : val r < val (r + 1) := by
  by_cases h1 : r + 1 < 4503599627370496
  · have e1 : val r = r := by simp only [val, sig, ex]; rw [if_pos (by omega), if_pos (by omega)]; simp
    have e2 : val (r + 1) = r + 1 := by simp only [val, sig, ex]; rw [if_pos h1, if_pos h1]; simp
    omega
  · by_cases h2 : r + 1 = 4503599627370496
    · have e1 : val r = r := by simp only [val, sig, ex]; rw [if_pos (by omega), if_pos (by omega)]; simp
      have e2 : val (r + 1) = 4503599627370496 := by rw [h2]; simp [val, sig, ex]
      omega
    · have a1 : sig r = 4503599627370496 + r % 4503599627370496 := by unfold sig; rw [if_neg (by omega)]
      have a2 : ex r = r / 4503599627370496 - 1 := by unfold ex; rw [if_neg (by omega)]
      have b1 : sig (r + 1) = 4503599627370496 + (r + 1) % 4503599627370496 := by unfold sig; rw [if_neg (by omega)]
      have b2 : ex (r + 1) = (r + 1) / 4503599627370496 - 1 := by unfold ex; rw [if_neg (by omega)]
      unfold val
      by_cases h3 : (r + 1) % 4503599627370496 = 0
      · obtain ⟨q, hq⟩ : ∃ q, ex r = q := ⟨_, rfl⟩
        have e1 : ex (r + 1) = q + 1 := by omega
        have e2 : sig (r + 1) = 4503599627370496 := by omega
        have e3 : sig r = 9007199254740991 := by omega
        rw [hq, e1, e2, e3, Nat.pow_succ]
        have := pow_pos q
        omega
      · have e1 : ex (r + 1) = ex r := by omega
        rw [e1]
        exact Nat.mul_lt_mul_of_pos_right (by omega) (pow_pos _)

theorem val_lt {r s : Nat} (h : r < s) : val r < val s := by
  induction s with
  | zero => omega
  | succ s ih =>
    by_cases e : r = s
    · subst e; exact val_succ r
    · exact Nat.lt_trans (ih (by omega)) (val_succ s)
theorem val_le {r s : Nat} (h : r ≤ s) : val r ≤ val s := by
  rcases Nat.lt_or_eq_of_le h with h | h
  · exact Nat.le_of_lt (val_lt h)
  · rw [h]; exact Nat.le_refl _
theorem le_of_val {r s : Nat} (h : val r ≤ val s) : r ≤ s := by
  rcases Nat.lt_or_ge s r with g | g
  · have := val_lt g; omega
  · exact g

/-- The rung of k units of 2 ^ t. -/
theorem val_rung (t k : Nat) (h : k ≤ 9007199254740992) (h2 : t = 0 ∨ 4503599627370496 ≤ k) : val (t * 4503599627370496 + k) = k * 2 ^ t := by
  by_cases h3 : k = 9007199254740992
  · subst h3
    have e : t * 4503599627370496 + 9007199254740992 = (t + 2) * 4503599627370496 := by omega
    have a1 : sig ((t + 2) * 4503599627370496) = 4503599627370496 := by unfold sig; rw [if_neg (by omega)]; omega
    have a2 : ex ((t + 2) * 4503599627370496) = t + 1 := by unfold ex; rw [if_neg (by omega)]; omega
    rw [e]; unfold val; rw [a1, a2, Nat.pow_succ]; omega
  · by_cases h4 : k < 4503599627370496
    · have ht : t = 0 := by omega
      subst ht
      have a1 : sig (0 * 4503599627370496 + k) = k := by unfold sig; rw [if_pos (by omega)]; omega
      have a2 : ex (0 * 4503599627370496 + k) = 0 := by unfold ex; rw [if_pos (by omega)]
      unfold val; rw [a1, a2]
    · have a1 : sig (t * 4503599627370496 + k) = k := by unfold sig; rw [if_neg (by omega)]; omega
      have a2 : ex (t * 4503599627370496 + k) = t := by unfold ex; rw [if_neg (by omega)]; omega
      unfold val; rw [a1, a2]

/-! ### cutting -/
theorem cut_form (neg : Bool) (n drop : Nat) (h : drop ≤ n.log2 + 2) :
    Ieee.Toward.even.cut neg n drop = n / 2 ^ drop + (2 ^ drop < 2 * (n % 2 ^ drop) || (2 ^ drop == 2 * (n % 2 ^ drop) && n / 2 ^ drop % 2 == 1)).toNat := by
  simp only [Ieee.Toward.cut, Nat.min_eq_left h, Nat.shiftLeft_eq, Nat.one_mul]
theorem cut_far (neg : Bool) (n drop : Nat) (h : n.log2 + 2 < drop) : Ieee.Toward.even.cut neg n drop = 0 ∧ n < 2 ^ drop := by
  have h1 : n < 2 ^ (n.log2 + 1) := Nat.lt_log2_self
  have h2 : 2 ^ (n.log2 + 2) = 2 * 2 ^ (n.log2 + 1) := by rw [Nat.pow_succ]; omega
  have h3 : 2 ^ (n.log2 + 2) ≤ 2 ^ drop := Nat.pow_le_pow_right (by omega) (by omega)
  refine ⟨?_, by omega⟩
  simp only [Ieee.Toward.cut, Nat.min_eq_right (Nat.le_of_lt h), Nat.shiftLeft_eq, Nat.one_mul]
  have h4 : n / 2 ^ (n.log2 + 2) = 0 := Nat.div_eq_of_lt (by omega)
  have h5 : n % 2 ^ (n.log2 + 2) = n := Nat.mod_eq_of_lt (by omega)
  rw [h4, h5]
  have h6 : decide (2 ^ (n.log2 + 2) < 2 * n) = false := decide_eq_false (by omega)
  rw [h6]
  simp

theorem cut_lo (neg : Bool) (n drop : Nat) : n / 2 ^ drop ≤ Ieee.Toward.even.cut neg n drop := by
  by_cases h : drop ≤ n.log2 + 2
  · rw [cut_form neg n drop h]; exact Nat.le_add_right _ _
  · obtain ⟨_, h2⟩ := cut_far neg n drop (by omega)
    rw [Nat.div_eq_of_lt h2]; exact Nat.zero_le _
theorem cut_hi (neg : Bool) (n drop b : Nat) (h : n ≤ b * 2 ^ drop) : Ieee.Toward.even.cut neg n drop ≤ b := by
  by_cases hd : drop ≤ n.log2 + 2
  · rw [cut_form neg n drop hd]
    have hp := pow_pos drop
    have hdm := Nat.div_add_mod n (2 ^ drop)
    by_cases hr : n % 2 ^ drop = 0
    · rw [hr]
      have h1 : decide (2 ^ drop < 2 * 0) = false := decide_eq_false (by omega)
      have h2 : (2 ^ drop == 2 * 0) = false := by rw [beq_eq_false_iff_ne]; omega
      rw [h1, h2]
      simp only [Bool.false_and, Bool.or_false, Bool.toNat_false, Nat.add_zero]
      refine Nat.le_of_mul_le_mul_left (c := 2 ^ drop) ?_ hp
      rw [Nat.mul_comm (2 ^ drop) b]; omega
    · have h1 : n / 2 ^ drop < b := by
        refine Nat.lt_of_mul_lt_mul_left (a := 2 ^ drop) ?_
        rw [Nat.mul_comm (2 ^ drop) b]; omega
      have h2 := Bool.toNat_le (decide (2 ^ drop < 2 * (n % 2 ^ drop)) || (2 ^ drop == 2 * (n % 2 ^ drop) && n / 2 ^ drop % 2 == 1))
      omega
  · rw [(cut_far neg n drop (by omega)).1]; exact Nat.zero_le _

/-! ### rounding -/
/-- What 'nearest' is made of. -/
theorem near_form (mag : Nat) (place : Int) (up down : Nat) (hud : place + 1074 = (up : Int) - down) (hm : 0 < mag) :
    ∃ t sh drop kept : Nat, Ieee.double.nearest false mag place = min (t * 4503599627370496 + kept) INF ∧ kept = Ieee.Toward.even.cut false (mag * 2 ^ sh) drop ∧
      t + down + sh = up + drop ∧ mag * 2 ^ sh < 9007199254740992 * 2 ^ drop ∧ (0 < t → 4503599627370496 * 2 ^ drop ≤ mag * 2 ^ sh) := by
  have hlp : Ieee.double.leastPlace = -1074 := by decide
  have hfb : Ieee.double.fractionBits = 52 := rfl
  have hbin : Ieee.double.binade = 4503599627370496 := by decide
  have hinf : Ieee.double.infRung = INF := by decide
  have hL1 : 2 ^ mag.log2 ≤ mag := Nat.log2_self_le (by omega)
  have hL2 : mag < 2 ^ (mag.log2 + 1) := Nat.lt_log2_self
  obtain ⟨L, hL⟩ : ∃ L, mag.log2 = L := ⟨_, rfl⟩
  rw [hL] at hL1 hL2
  obtain ⟨last, hlast⟩ : ∃ last : Int, last = max (place + (L : Int) - 52) (-1074) := ⟨_, rfl⟩
  refine ⟨(last + 1074).toNat, (place - last).toNat, (last - place).toNat, _, ?_, rfl, ?_, ?_, ?_⟩
  · simp only [Ieee.Format.nearest]
    rw [if_neg (by omega), hlp, hfb, hbin, hinf, hL]
    simp only [Ieee.Format.word, Nat.shiftLeft_eq]
    rw [show ((52 : Nat) : Int) = 52 from rfl, ← hlast, show last - -1074 = last + 1074 from by omega]
    simp
  · omega
  · have e : 9007199254740992 * 2 ^ (last - place).toNat = 2 ^ (53 + (last - place).toNat) := by rw [Nat.pow_add]
    rw [e]
    refine Nat.lt_of_lt_of_le (Nat.mul_lt_mul_of_pos_right hL2 (pow_pos _)) ?_
    rw [← Nat.pow_add]
    exact Nat.pow_le_pow_right (by omega) (by omega)
  · intro ht
    have e : 4503599627370496 * 2 ^ (last - place).toNat = 2 ^ (52 + (last - place).toNat) := by rw [Nat.pow_add]
    rw [e]
    refine Nat.le_trans ?_ (Nat.mul_le_mul_right _ hL1)
    rw [← Nat.pow_add]
    exact Nat.pow_le_pow_right (by omega) (by omega)

theorem mul_pow_cancel {a b k : Nat} (h : a * 2 ^ k ≤ b * 2 ^ k) : a ≤ b := Nat.le_of_mul_le_mul_right h (pow_pos k)

theorem near_le (mag : Nat) (place : Int) : Ieee.double.nearest false mag place ≤ INF := by
  have hinf : Ieee.double.infRung = INF := by decide
  by_cases hm : mag = 0
  · simp only [Ieee.Format.nearest, Ieee.Format.word, Bool.false_eq_true, if_false]
    rw [if_pos hm]
    exact Nat.zero_le _
  · simp only [Ieee.Format.nearest, Ieee.Format.word, Bool.false_eq_true, if_false]
    rw [if_neg hm, hinf]
    exact Nat.min_le_right _ _

theorem low_aux (a e d q K : Nat) (ha : a ≤ 2 * K) (h2 : K ≤ q) : a * 2 ^ e ≤ q * 2 ^ (e + 1 + d) := by
  have h3 : a * 2 ^ e ≤ 2 * K * 2 ^ e := Nat.mul_le_mul_right _ ha
  have e1 : 2 * K * 2 ^ e = K * 2 ^ (e + 1) := by rw [Nat.pow_succ, Nat.mul_comm 2 K, Nat.mul_assoc, Nat.mul_comm 2]
  have h4 : K * 2 ^ (e + 1) ≤ K * 2 ^ (e + 1 + d) := Nat.mul_le_mul_left _ (Nat.pow_le_pow_right (by omega) (by omega))
  have h5 : K * 2 ^ (e + 1 + d) ≤ q * 2 ^ (e + 1 + d) := Nat.mul_le_mul_right _ h2
  omega

/-- FROM BELOW: whatever has at most 53 digits and is not above the number is not above what is rounded. -/
theorem near_lo (mag : Nat) (place : Int) (up down : Nat) (hud : place + 1074 = (up : Int) - down) (hm : 0 < mag) (a e : Nat) (ha : a ≤ 9007199254740992)
    (h : a * 2 ^ e * 2 ^ down ≤ mag * 2 ^ up) : Ieee.double.nearest false mag place = INF ∨ a * 2 ^ e ≤ val (Ieee.double.nearest false mag place) := by
  obtain ⟨t, sh, drop, kept, hR, hk, hs, hlt, hge⟩ := near_form mag place up down hud hm
  rw [hR]
  by_cases hbig : INF ≤ t * 4503599627370496 + kept
  · left; exact Nat.min_eq_right hbig
  · right
    rw [Nat.min_eq_left (by omega)]
    generalize hn : mag * 2 ^ sh = n at *
    have hlo := cut_lo false n drop
    rw [← hk] at hlo
    have hq1 : n / 2 ^ drop < 9007199254740992 := (Nat.div_lt_iff_lt_mul (pow_pos _)).2 hlt
    have hq2 : 0 < t → 4503599627370496 ≤ n / 2 ^ drop := fun ht => (Nat.le_div_iff_mul_le (pow_pos _)).2 (hge ht)
    have hv := val_rung t (n / 2 ^ drop) (by omega) (by rcases Nat.eq_zero_or_pos t with h0 | h0; exact Or.inl h0; exact Or.inr (hq2 h0))
    refine Nat.le_trans ?_ (val_le (show t * 4503599627370496 + n / 2 ^ drop ≤ t * 4503599627370496 + kept by omega))
    rw [hv]
    have H : a * 2 ^ (e + drop) ≤ n * 2 ^ t := by
      have h1 : a * 2 ^ e * 2 ^ down * 2 ^ (sh + drop) ≤ mag * 2 ^ up * 2 ^ (sh + drop) := Nat.mul_le_mul_right _ h
      have e1 : a * 2 ^ e * 2 ^ down * 2 ^ (sh + drop) = a * 2 ^ (e + drop) * 2 ^ (down + sh) := by
        simp only [Nat.mul_assoc, ← Nat.pow_add]; congr 2; omega
      have e2 : mag * 2 ^ up * 2 ^ (sh + drop) = n * 2 ^ t * 2 ^ (down + sh) := by
        rw [← hn]; simp only [Nat.mul_assoc, ← Nat.pow_add]; congr 2; omega
      rw [e1, e2] at h1
      exact mul_pow_cancel h1
    by_cases het : t ≤ e
    · obtain ⟨d, rfl⟩ : ∃ d, e = t + d := ⟨e - t, by omega⟩
      have h2 : a * 2 ^ d ≤ n / 2 ^ drop := by
        rw [Nat.le_div_iff_mul_le (pow_pos _)]
        have e3 : a * 2 ^ (t + d + drop) = a * 2 ^ d * 2 ^ drop * 2 ^ t := by
          simp only [Nat.mul_assoc, ← Nat.pow_add]; congr 2; omega
        rw [e3] at H
        exact mul_pow_cancel H
      have e4 : a * 2 ^ (t + d) = a * 2 ^ d * 2 ^ t := by simp only [Nat.mul_assoc, ← Nat.pow_add]; congr 2; omega
      rw [e4]
      exact Nat.mul_le_mul_right _ h2
    · obtain ⟨d, rfl⟩ : ∃ d, t = e + 1 + d := ⟨t - e - 1, by omega⟩
      have h2 := hq2 (by omega)
      exact low_aux a e d _ 4503599627370496 (by omega) h2

/-- FROM ABOVE. -/
theorem near_hi (mag : Nat) (place : Int) (up down : Nat) (hud : place + 1074 = (up : Int) - down) (hm : 0 < mag) (a e : Nat) (ha : a < 9007199254740992)
    (h : mag * 2 ^ up ≤ a * 2 ^ e * 2 ^ down) : val (Ieee.double.nearest false mag place) ≤ a * 2 ^ e := by
  obtain ⟨t, sh, drop, kept, hR, hk, hs, hlt, hge⟩ := near_form mag place up down hud hm
  rw [hR]
  refine Nat.le_trans (val_le (Nat.min_le_left _ _)) ?_
  generalize hn : mag * 2 ^ sh = n at *
  have H : n * 2 ^ t ≤ a * 2 ^ (e + drop) := by
    have h1 : mag * 2 ^ up * 2 ^ (sh + drop) ≤ a * 2 ^ e * 2 ^ down * 2 ^ (sh + drop) := Nat.mul_le_mul_right _ h
    have e1 : a * 2 ^ e * 2 ^ down * 2 ^ (sh + drop) = a * 2 ^ (e + drop) * 2 ^ (down + sh) := by
      simp only [Nat.mul_assoc, ← Nat.pow_add]; congr 2; omega
    have e2 : mag * 2 ^ up * 2 ^ (sh + drop) = n * 2 ^ t * 2 ^ (down + sh) := by
      rw [← hn]; simp only [Nat.mul_assoc, ← Nat.pow_add]; congr 2; omega
    rw [e1, e2] at h1
    exact mul_pow_cancel h1
  by_cases het : t ≤ e
  · obtain ⟨d, rfl⟩ : ∃ d, e = t + d := ⟨e - t, by omega⟩
    have h2 : n ≤ a * 2 ^ d * 2 ^ drop := by
      have e3 : a * 2 ^ (t + d + drop) = a * 2 ^ d * 2 ^ drop * 2 ^ t := by
        simp only [Nat.mul_assoc, ← Nat.pow_add]; congr 2; omega
      rw [e3] at H
      exact mul_pow_cancel H
    have h3 := cut_hi false n drop _ h2
    rw [← hk] at h3
    have h4 : kept ≤ 9007199254740992 := by rw [hk]; exact cut_hi false n drop _ (Nat.le_of_lt hlt)
    have h5 : t = 0 ∨ 4503599627370496 ≤ kept := by
      rcases Nat.eq_zero_or_pos t with h0 | h0
      · exact Or.inl h0
      · right
        have := cut_lo false n drop
        rw [← hk] at this
        exact Nat.le_trans ((Nat.le_div_iff_mul_le (pow_pos _)).2 (hge h0)) this
    rw [val_rung t kept h4 h5]
    have e4 : a * 2 ^ (t + d) = a * 2 ^ d * 2 ^ t := by simp only [Nat.mul_assoc, ← Nat.pow_add]; congr 2; omega
    rw [e4]
    exact Nat.mul_le_mul_right _ h3
  · exfalso
    obtain ⟨d, rfl⟩ : ∃ d, t = e + 1 + d := ⟨t - e - 1, by omega⟩
    have h2 := hge (by omega)
    have h3 : 4503599627370496 * 2 ^ drop * 2 ^ (e + 1 + d) ≤ a * 2 ^ (e + drop) := Nat.le_trans (Nat.mul_le_mul_right _ h2) H
    have e5 : 4503599627370496 * 2 ^ drop * 2 ^ (e + 1 + d) = 9007199254740992 * 2 ^ d * 2 ^ (e + drop) := by
      have : (9007199254740992 : Nat) = 4503599627370496 * 2 ^ 1 := by decide
      rw [this]; simp only [Nat.mul_assoc, ← Nat.pow_add]; congr 2; omega
    rw [e5] at h3
    have h4 := mul_pow_cancel h3
    have h6 : 9007199254740992 * 1 ≤ 9007199254740992 * 2 ^ d := Nat.mul_le_mul_left _ (pow_pos d)
    omega

end Go.Proofs.Qxb6619576aFmt.Fl

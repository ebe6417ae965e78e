/-
  Seat b6619576aF: PLAIN, on: differences from 1, products, quotients. No Go in sight.
-/
import Derived.Test.Qxb6619576aFmtOps
namespace Go.Proofs.Qxb6619576aFmt.Fl

theorem ONE_lt : ONE < INF := by rw [ONE_eq, INF_eq]; omega
theorem sig_ONE : sig ONE = 4503599627370496 := by decide
theorem ex_ONE : ex ONE = 1022 := by decide
/-- The place of 1 above the least subnormal number (a plain name, so that no power of two is reckoned out). -/
def K : Nat := 1074
theorem K_eq : K = 1074 := rfl
theorem pow52 (n : Nat) : 4503599627370496 * 2 ^ n = 2 ^ (52 + n) := by rw [Nat.pow_add]
theorem val_ONE : val ONE = 2 ^ K := by
  unfold val; rw [sig_ONE, pow52]
  have : 52 + ex ONE = K := by rw [ex_ONE, K_eq]
  rw [this]

/-! ### 1 - t, 1 + t -/
theorem one_sub {t : Nat} (h : t < ONE) : Ieee.double.sub ONE t = some (subW ONE t) ∧ 0 < subW ONE t ∧ subW ONE t ≤ ONE := by
  have ht : t < INF := Nat.lt_trans h ONE_lt
  have e1 : ((ex ONE : Int) - 1074 - min ((ex ONE : Int) - 1074) ((ex t : Int) - 1074)).toNat = ex ONE - min (ex ONE) (ex t) := by omega
  have e2 : ((ex t : Int) - 1074 - min ((ex ONE : Int) - 1074) ((ex t : Int) - 1074)).toNat = ex t - min (ex ONE) (ex t) := by omega
  have h1 := scale ONE (min (ex ONE) (ex t)) (by omega)
  have h2 := scale t (min (ex ONE) (ex t)) (by omega)
  have h3 := val_lt h
  have hkey : ∃ mag : Nat, 0 < mag ∧ mag * 2 ^ (min (ex ONE) (ex t)) ≤ val ONE ∧ Ieee.double.sub ONE t = some (Ieee.double.nearest false mag ((min (ex ONE) (ex t) : Nat) - 1074)) := by
    simp only [Ieee.Format.sub, read_fin ONE_lt, read_fin ht, Ieee.Datum.opposite, Ieee.Datum.sum, Ieee.signed, Bool.false_eq_true, if_false, Bool.not_false, if_true, Option.map_some, e1, e2]
    generalize sig ONE <<< (ex ONE - min (ex ONE) (ex t)) = p at *
    generalize sig t <<< (ex t - min (ex ONE) (ex t)) = q at *
    have hlt : q < p := by
      rw [← h1, ← h2] at h3
      exact Nat.lt_of_mul_lt_mul_right h3
    have e3 : ((p : Int) + -(q : Int)).natAbs = p - q := by omega
    have e4 : (if (p : Int) + -(q : Int) = 0 then (false && true) else decide ((p : Int) + -(q : Int) < 0)) = false := by
      split
      · rfl
      · exact decide_eq_false (by omega)
    have e5 : min ((ex ONE : Int) - 1074) ((ex t : Int) - 1074) = ((min (ex ONE) (ex t) : Nat) : Int) - 1074 := by omega
    refine ⟨p - q, by omega, ?_, ?_⟩
    · rw [← h1]; exact Nat.mul_le_mul_right _ (Nat.sub_le _ _)
    · simp only [e3, e4, e5, Ieee.Format.write]
  obtain ⟨mag, hm, hle, he⟩ := hkey
  have hr : subW ONE t = Ieee.double.nearest false mag ((min (ex ONE) (ex t) : Nat) - 1074) := by unfold subW; rw [he]; rfl
  refine ⟨by rw [hr]; exact he, ?_, ?_⟩
  · rw [hr]
    rcases near_lo mag ((min (ex ONE) (ex t) : Nat) - 1074) (min (ex ONE) (ex t)) 0 (by omega) hm 1 0 (by omega) (by have := Nat.mul_pos hm (pow_pos (min (ex ONE) (ex t))); omega) with e | e
    · rw [e, INF_eq]; omega
    · exact pos_of_val (by omega)
  · rw [hr]
    apply le_of_val
    have := near_hi mag ((min (ex ONE) (ex t) : Nat) - 1074) (min (ex ONE) (ex t)) 0 (by omega) hm (sig ONE) (ex ONE) (sig_lt _) (by rw [Nat.pow_zero, Nat.mul_one]; exact hle)
    exact this

theorem one_add {t : Nat} (h : t ≤ INF) : Ieee.double.add ONE t = some (addW ONE t) ∧ ONE ≤ addW ONE t ∧ addW ONE t ≤ INF := by
  obtain ⟨h1, h2⟩ := add_some (Nat.le_of_lt ONE_lt) h
  refine ⟨h1, ?_, h2⟩
  rcases add_lo (Nat.le_of_lt ONE_lt) h (sig ONE) (ex ONE) (Nat.le_of_lt (sig_lt _)) (by show val ONE ≤ val ONE + val t; omega) with e | e
  · rw [e]; exact Nat.le_of_lt ONE_lt
  · exact le_of_val e

/-! ### products -/
theorem mul_fin {x y : Nat} (hx : x < INF) (hy : y < INF) : Ieee.double.mul x y = some (Ieee.double.nearest false (sig x * sig y) ((ex x : Int) - 1074 + ((ex y : Int) - 1074))) := by
  simp only [Ieee.Format.mul, read_fin hx, read_fin hy, Ieee.Datum.product, Option.map_some, Ieee.Format.write, Bool.xor_false]
theorem mul_inf_left {y : Nat} (hy : y ≤ INF) (h : 0 < y) : Ieee.double.mul INF y = some INF := by
  by_cases hyi : y = INF
  · subst hyi; decide
  · simp only [Ieee.Format.mul, read_inf, read_fin (show y < INF by omega), Ieee.Datum.product]
    rw [if_neg (by have := sig_pos h; omega)]
    decide
theorem mul_inf_right {x : Nat} (hx : x ≤ INF) (h : 0 < x) : Ieee.double.mul x INF = some INF := by
  by_cases hxi : x = INF
  · subst hxi; decide
  · simp only [Ieee.Format.mul, read_inf, read_fin (show x < INF by omega), Ieee.Datum.product]
    rw [if_neg (by have := sig_pos h; omega)]
    decide
theorem mul_some {x y : Nat} (hx : x ≤ INF) (hy : y ≤ INF) (h1 : 0 < x) (h2 : 0 < y) : Ieee.double.mul x y = some (mulW x y) ∧ mulW x y ≤ INF := by
  by_cases hxi : x = INF
  · subst hxi
    have e := mul_inf_left hy h2
    unfold mulW; rw [e]; exact ⟨rfl, Nat.le_refl _⟩
  · by_cases hyi : y = INF
    · subst hyi
      have e := mul_inf_right hx h1
      unfold mulW; rw [e]; exact ⟨rfl, Nat.le_refl _⟩
    · have e := mul_fin (show x < INF by omega) (show y < INF by omega)
      unfold mulW; rw [e]; exact ⟨rfl, near_le _ _⟩

theorem ac4 (a b c d : Nat) : a * b * c * d = d * (a * b) * c := by ac_rfl

/-- Two Nats whose difference is an Int. -/
theorem updown (z : Int) : ∃ up down : Nat, z = (up : Int) - down := ⟨z.toNat, (-z).toNat, by omega⟩

theorem prod_eq (m n a b up down : Nat) (h : up + K = down + a + b) : m * n * 2 ^ up * 2 ^ K = m * 2 ^ a * (n * 2 ^ b) * 2 ^ down := by
  have e : m * 2 ^ a * (n * 2 ^ b) * 2 ^ down = m * n * 2 ^ (down + a + b) := by
    rw [Nat.pow_add, Nat.pow_add]
    ac_rfl
  rw [e, ← h, Nat.pow_add, Nat.mul_assoc]

theorem mul_ge {u c : Nat} (hu : ONE ≤ u) (hui : u ≤ INF) (hc : 0 < c) (hci : c ≤ INF) : c ≤ mulW u c := by
  have hu0 : 0 < u := by rw [ONE_eq] at hu; omega
  by_cases hxi : u = INF
  · subst hxi
    have e := mul_inf_left hci hc
    unfold mulW; rw [e]; exact hci
  · by_cases hyi : c = INF
    · subst hyi
      have e := mul_inf_right hui hu0
      unfold mulW; rw [e]; exact Nat.le_refl _
    · have e := mul_fin (show u < INF by omega) (show c < INF by omega)
      have hr : mulW u c = Ieee.double.nearest false (sig u * sig c) ((ex u : Int) - 1074 + ((ex c : Int) - 1074)) := by unfold mulW; rw [e]; rfl
      rw [hr]
      obtain ⟨up, down, hz⟩ := updown ((ex u : Int) - 1074 + ((ex c : Int) - 1074) + 1074)
      have hmag : 0 < sig u * sig c := Nat.mul_pos (sig_pos hu0) (sig_pos hc)
      have hv := val_le hu
      rw [val_ONE] at hv
      have hp := prod_eq (sig u) (sig c) (ex u) (ex c) up down (by rw [K_eq]; omega)
      have hin : sig c * 2 ^ ex c * 2 ^ down ≤ sig u * sig c * 2 ^ up := by
        refine mul_pow_cancel (k := K) ?_
        rw [hp]
        have h1 : 2 ^ K * (sig c * 2 ^ ex c) ≤ sig u * 2 ^ ex u * (sig c * 2 ^ ex c) := Nat.mul_le_mul_right _ hv
        have h2 := Nat.mul_le_mul_right (2 ^ down) h1
        have e2 : sig c * 2 ^ ex c * 2 ^ down * 2 ^ K = 2 ^ K * (sig c * 2 ^ ex c) * 2 ^ down := ac4 _ _ _ _
        rw [e2]; exact h2
      rcases near_lo _ _ up down hz hmag (sig c) (ex c) (Nat.le_of_lt (sig_lt _)) hin with g | g
      · rw [g]; exact hci
      · exact le_of_val g
theorem mul_le {u c : Nat} (hu : u ≤ ONE) (hu0 : 0 < u) (hc : 0 < c) (hci : c ≤ INF) : mulW u c ≤ c := by
  have hui : u < INF := Nat.lt_of_le_of_lt hu ONE_lt
  by_cases hyi : c = INF
  · subst hyi
    have e := mul_inf_right (Nat.le_of_lt hui) hu0
    unfold mulW; rw [e]; exact Nat.le_refl _
  · have e := mul_fin hui (show c < INF by omega)
    have hr : mulW u c = Ieee.double.nearest false (sig u * sig c) ((ex u : Int) - 1074 + ((ex c : Int) - 1074)) := by unfold mulW; rw [e]; rfl
    rw [hr]
    obtain ⟨up, down, hz⟩ := updown ((ex u : Int) - 1074 + ((ex c : Int) - 1074) + 1074)
    have hmag : 0 < sig u * sig c := Nat.mul_pos (sig_pos hu0) (sig_pos hc)
    have hv := val_le hu
    rw [val_ONE] at hv
    have hp := prod_eq (sig u) (sig c) (ex u) (ex c) up down (by rw [K_eq]; omega)
    have hin : sig u * sig c * 2 ^ up ≤ sig c * 2 ^ ex c * 2 ^ down := by
      refine mul_pow_cancel (k := K) ?_
      rw [hp]
      have h1 : sig u * 2 ^ ex u * (sig c * 2 ^ ex c) ≤ 2 ^ K * (sig c * 2 ^ ex c) := Nat.mul_le_mul_right _ hv
      have h2 := Nat.mul_le_mul_right (2 ^ down) h1
      have e2 : sig c * 2 ^ ex c * 2 ^ down * 2 ^ K = 2 ^ K * (sig c * 2 ^ ex c) * 2 ^ down := ac4 _ _ _ _
      rw [e2]; exact h2
    exact le_of_val (near_hi _ _ up down hz hmag (sig c) (ex c) (sig_lt _) hin)


/-! ### quotients -/
theorem div_fin {x y : Nat} (hx : x < INF) (hy : y < INF) (hy0 : 0 < y) : ∃ more : Nat, more = 54 + (sig y).log2 - (sig x).log2 ∧
    Ieee.double.div x y = some (Ieee.double.nearest false (2 * (sig x * 2 ^ more / sig y) + (sig x * 2 ^ more % sig y != 0).toNat) ((ex x : Int) - 1074 - ((ex y : Int) - 1074) - more - 1)) := by
  refine ⟨_, rfl, ?_⟩
  simp only [Ieee.Format.div, read_fin hx, read_fin hy, Ieee.Datum.quotient]
  rw [if_neg (by have := sig_pos hy0; omega)]
  simp only [Option.map_some, Ieee.Format.write, Bool.xor_false, Nat.shiftLeft_eq]
  rfl
theorem div_inf {y : Nat} (hy : y < INF) : Ieee.double.div INF y = some INF := by
  simp only [Ieee.Format.div, read_inf, read_fin hy, Ieee.Datum.quotient]
  decide

/-- The digits of a quotient, from below. -/
theorem quo_lo (m n more A C : Nat) (hn : 0 < n) (hm : 0 < m) (h : n * 2 ^ A ≤ m * 2 ^ C) : 2 ^ (A + more + 1) ≤ (2 * (m * 2 ^ more / n) + (m * 2 ^ more % n != 0).toNat) * 2 ^ C := by
  by_cases hAC : A ≤ C
  · obtain ⟨d, rfl⟩ : ∃ d, C = A + d := ⟨C - A, by omega⟩
    have h1 : n ≤ m * 2 ^ d := by
      refine mul_pow_cancel (k := A) ?_
      have e : m * 2 ^ (A + d) = m * 2 ^ d * 2 ^ A := by rw [Nat.pow_add]; ac_rfl
      rw [← e]; exact h
    by_cases hd : d ≤ more
    · obtain ⟨g, rfl⟩ : ∃ g, more = d + g := ⟨more - d, by omega⟩
      have h2 : 2 ^ g ≤ m * 2 ^ (d + g) / n := by
        rw [Nat.le_div_iff_mul_le hn]
        have e : m * 2 ^ (d + g) = m * 2 ^ d * 2 ^ g := by rw [Nat.pow_add]; ac_rfl
        rw [e, Nat.mul_comm]
        exact Nat.mul_le_mul_right _ h1
      have e2 : 2 ^ (A + (d + g) + 1) = 2 * 2 ^ g * 2 ^ (A + d) := by
        rw [show A + (d + g) + 1 = 1 + g + (A + d) from by omega, Nat.pow_add, Nat.pow_add]
      rw [e2]
      exact Nat.mul_le_mul_right _ (by omega)
    · have h2 : 1 ≤ 2 * (m * 2 ^ more / n) + (m * 2 ^ more % n != 0).toNat := by
        by_cases hr : m * 2 ^ more % n = 0
        · have h3 := Nat.div_add_mod (m * 2 ^ more) n
          have h4 := Nat.mul_pos hm (pow_pos more)
          have h5 : 0 < m * 2 ^ more / n := by
            rcases Nat.eq_zero_or_pos (m * 2 ^ more / n) with z | z
            · rw [z] at h3; omega
            · exact z
          omega
        · have : (m * 2 ^ more % n != 0) = true := by rw [bne_iff_ne]; exact hr
          rw [this]; simp
      have h3 := Nat.mul_le_mul_right (2 ^ (A + d)) h2
      refine Nat.le_trans ?_ h3
      rw [Nat.one_mul]
      exact Nat.pow_le_pow_right (by omega) (by omega)
  · obtain ⟨d, rfl⟩ : ∃ d, A = C + d := ⟨A - C, by omega⟩
    have h1 : n * 2 ^ d ≤ m := by
      refine mul_pow_cancel (k := C) ?_
      have e : n * 2 ^ (C + d) = n * 2 ^ d * 2 ^ C := by rw [Nat.pow_add]; ac_rfl
      rw [← e]; exact h
    have h2 : 2 ^ (d + more) ≤ m * 2 ^ more / n := by
      rw [Nat.le_div_iff_mul_le hn, Nat.pow_add, Nat.mul_right_comm, Nat.mul_comm (2 ^ d) n]
      exact Nat.mul_le_mul_right _ h1
    have e2 : 2 ^ (C + d + more + 1) = 2 * 2 ^ (d + more) * 2 ^ C := by
      rw [show C + d + more + 1 = 1 + (d + more) + C from by omega, Nat.pow_add, Nat.pow_add]
    rw [e2]
    exact Nat.mul_le_mul_right _ (by omega)

/-- .. and from above, at a divisor that is not too great for the digits asked. -/
theorem quo_hi (m n more A C : Nat) (hbig : ∀ d, m * 2 ^ d < n → d ≤ more) (h : m * 2 ^ C < n * 2 ^ A) : (2 * (m * 2 ^ more / n) + (m * 2 ^ more % n != 0).toNat) * 2 ^ C ≤ 2 ^ (A + more + 1) := by
  have hb := Bool.toNat_le (m * 2 ^ more % n != 0)
  have hq : m * 2 ^ more / n * n ≤ m * 2 ^ more := Nat.div_mul_le_self _ _
  generalize m * 2 ^ more / n = q at *
  by_cases hAC : A ≤ C
  · obtain ⟨d, rfl⟩ : ∃ d, C = A + d := ⟨C - A, by omega⟩
    have h1 : m * 2 ^ d < n := by
      have e : m * 2 ^ (A + d) = m * 2 ^ d * 2 ^ A := by rw [Nat.pow_add]; ac_rfl
      rw [e] at h
      exact Nat.lt_of_mul_lt_mul_right h
    obtain ⟨g, rfl⟩ : ∃ g, more = d + g := ⟨more - d, by have := hbig d h1; omega⟩
    have h2 : q < 2 ^ g := by
      have e : m * 2 ^ (d + g) = m * 2 ^ d * 2 ^ g := by rw [Nat.pow_add]; ac_rfl
      rw [e] at hq
      have h3 : m * 2 ^ d * 2 ^ g < n * 2 ^ g := Nat.mul_lt_mul_of_pos_right h1 (pow_pos g)
      have h4 : q * n < 2 ^ g * n := by rw [Nat.mul_comm (2 ^ g) n]; omega
      exact Nat.lt_of_mul_lt_mul_right h4
    have e2 : 2 ^ (A + (d + g) + 1) = 2 * 2 ^ g * 2 ^ (A + d) := by
      rw [show A + (d + g) + 1 = 1 + g + (A + d) from by omega, Nat.pow_add, Nat.pow_add]
    rw [e2]
    exact Nat.mul_le_mul_right _ (by omega)
  · obtain ⟨d, rfl⟩ : ∃ d, A = C + d := ⟨A - C, by omega⟩
    have h1 : m < n * 2 ^ d := by
      have e : n * 2 ^ (C + d) = n * 2 ^ d * 2 ^ C := by rw [Nat.pow_add]; ac_rfl
      rw [e] at h
      exact Nat.lt_of_mul_lt_mul_right h
    have h2 : q < 2 ^ (d + more) := by
      have h3 : m * 2 ^ more < n * 2 ^ d * 2 ^ more := Nat.mul_lt_mul_of_pos_right h1 (pow_pos more)
      have e : n * 2 ^ d * 2 ^ more = 2 ^ (d + more) * n := by rw [Nat.pow_add]; ac_rfl
      rw [e] at h3
      exact Nat.lt_of_mul_lt_mul_right (Nat.lt_of_le_of_lt hq h3)
    have e2 : 2 ^ (C + d + more + 1) = 2 * 2 ^ (d + more) * 2 ^ C := by
      rw [show C + d + more + 1 = 1 + (d + more) + C from by omega, Nat.pow_add, Nat.pow_add]
    rw [e2]
    exact Nat.mul_le_mul_right _ (by omega)

theorem scale_le (Q e A C up down more b : Nat) (hA : A = e + b) (hz : up + b + more + 1 = down + C) : 2 ^ (A + more + 1) ≤ Q * 2 ^ C ↔ 1 * 2 ^ e * 2 ^ down ≤ Q * 2 ^ up := by
  have e1 : 1 * 2 ^ e * 2 ^ down * 2 ^ (b + more + 1) = 2 ^ (A + more + 1) * 2 ^ down := by
    rw [Nat.one_mul, ← Nat.pow_add, ← Nat.pow_add, ← Nat.pow_add]; congr 1; omega
  have e2 : Q * 2 ^ up * 2 ^ (b + more + 1) = Q * 2 ^ C * 2 ^ down := by
    rw [Nat.mul_assoc, ← Nat.pow_add, Nat.mul_assoc, ← Nat.pow_add]; congr 2; omega
  constructor
  · intro h
    refine mul_pow_cancel (k := b + more + 1) ?_
    rw [e1, e2]; exact Nat.mul_le_mul_right _ h
  · intro h
    have := Nat.mul_le_mul_right (2 ^ (b + more + 1)) h
    rw [e1, e2] at this
    exact mul_pow_cancel this
theorem scale_ge (Q e A C up down more b : Nat) (hA : A = e + b) (hz : up + b + more + 1 = down + C) : Q * 2 ^ C ≤ 2 ^ (A + more + 1) ↔ Q * 2 ^ up ≤ 1 * 2 ^ e * 2 ^ down := by
  have e1 : 1 * 2 ^ e * 2 ^ down * 2 ^ (b + more + 1) = 2 ^ (A + more + 1) * 2 ^ down := by
    rw [Nat.one_mul, ← Nat.pow_add, ← Nat.pow_add, ← Nat.pow_add]; congr 1; omega
  have e2 : Q * 2 ^ up * 2 ^ (b + more + 1) = Q * 2 ^ C * 2 ^ down := by
    rw [Nat.mul_assoc, ← Nat.pow_add, Nat.mul_assoc, ← Nat.pow_add]; congr 2; omega
  constructor
  · intro h
    refine mul_pow_cancel (k := b + more + 1) ?_
    rw [e1, e2]; exact Nat.mul_le_mul_right _ h
  · intro h
    have := Nat.mul_le_mul_right (2 ^ (b + more + 1)) h
    rw [e1, e2] at this
    exact mul_pow_cancel this

theorem quo_pos (m n more : Nat) (hm : 0 < m) : 0 < 2 * (m * 2 ^ more / n) + (m * 2 ^ more % n != 0).toNat := by
  by_cases hr : m * 2 ^ more % n = 0
  · have h3 := Nat.div_add_mod (m * 2 ^ more) n
    have h4 := Nat.mul_pos hm (pow_pos more)
    have h5 : 0 < m * 2 ^ more / n := by
      rcases Nat.eq_zero_or_pos (m * 2 ^ more / n) with z | z
      · rw [z] at h3; omega
      · exact z
    omega
  · have : (m * 2 ^ more % n != 0) = true := by rw [bne_iff_ne]; exact hr
    rw [this]; simp

/-- S / W, W the word of the number k: from below. -/
theorem div_lo {S W k : Nat} (hS : S ≤ INF) (hS0 : 0 < S) (hW : W < INF) (hW0 : 0 < W) (hk : val W = k * 2 ^ K) :
    Ieee.double.div S W = some (divW S W) ∧ divW S W ≤ INF ∧ ∀ e, k * 2 ^ e ≤ val S → (divW S W = INF ∨ 2 ^ e ≤ val (divW S W)) := by
  by_cases hi : S = INF
  · subst hi
    have e := div_inf hW
    have hd : divW INF W = INF := by unfold divW; rw [e]; rfl
    rw [hd]; exact ⟨e, Nat.le_refl _, fun _ _ => Or.inl rfl⟩
  · obtain ⟨more, _, he⟩ := div_fin (show S < INF by omega) hW hW0
    obtain ⟨mag, hmag⟩ : ∃ mag, 2 * (sig S * 2 ^ more / sig W) + (sig S * 2 ^ more % sig W != 0).toNat = mag := ⟨_, rfl⟩
    have hpos := quo_pos (sig S) (sig W) more (sig_pos hS0)
    rw [hmag] at he hpos
    have hr : divW S W = Ieee.double.nearest false mag ((ex S : Int) - 1074 - ((ex W : Int) - 1074) - more - 1) := by unfold divW; rw [he]; rfl
    rw [hr]
    refine ⟨he, near_le _ _, fun e hke => ?_⟩
    obtain ⟨up, down, hz⟩ := updown ((ex S : Int) - 1074 - ((ex W : Int) - 1074) - more - 1 + 1074)
    have hq := quo_lo (sig S) (sig W) more (e + ex W) (ex S + K) (sig_pos hW0) (sig_pos hS0) (by
      have e1 : sig W * 2 ^ (e + ex W) = k * 2 ^ e * 2 ^ K := by
        have : sig W * 2 ^ ex W = k * 2 ^ K := hk
        rw [Nat.pow_add, Nat.mul_left_comm, this, Nat.mul_left_comm, Nat.mul_assoc]
      have e2 : sig S * 2 ^ (ex S + K) = val S * 2 ^ K := by rw [Nat.pow_add, ← Nat.mul_assoc]; rfl
      rw [e1, e2]
      exact Nat.mul_le_mul_right _ hke)
    rw [hmag] at hq
    have hin := (scale_le mag e (e + ex W) (ex S + K) up down more (ex W) rfl (by rw [K_eq]; omega)).1 hq
    rcases near_lo mag _ up down hz hpos 1 e (by omega) hin with g | g
    · exact Or.inl g
    · right; rw [Nat.one_mul] at g; exact g

/-- The word of 2. -/
def TWO : Nat := 4611686018427387904
theorem TWO_lt : TWO < INF := by decide
theorem sig_TWO : sig TWO = 4503599627370496 := by decide
theorem ex_TWO : ex TWO = 1023 := by decide

/-- m / 2: from above. -/
theorem half_hi {m : Nat} (hm : m < INF) (hm0 : 0 < m) : Ieee.double.div m TWO = some (divW m TWO) ∧ divW m TWO ≤ INF ∧ ∀ e, val m < 2 ^ (e + 1) → val (divW m TWO) ≤ 2 ^ e := by
  obtain ⟨more, hmore, he⟩ := div_fin hm TWO_lt (by decide)
  obtain ⟨mag, hmag⟩ : ∃ mag, 2 * (sig m * 2 ^ more / sig TWO) + (sig m * 2 ^ more % sig TWO != 0).toNat = mag := ⟨_, rfl⟩
  have hpos := quo_pos (sig m) (sig TWO) more (sig_pos hm0)
  rw [hmag] at he hpos
  have hr : divW m TWO = Ieee.double.nearest false mag ((ex m : Int) - 1074 - ((ex TWO : Int) - 1074) - more - 1) := by unfold divW; rw [he]; rfl
  rw [hr]
  refine ⟨he, near_le _ _, fun e hlt => ?_⟩
  obtain ⟨up, down, hz⟩ := updown ((ex m : Int) - 1074 - ((ex TWO : Int) - 1074) - more - 1 + 1074)
  have hl2 : (sig TWO).log2 = 52 := by rw [sig_TWO]; decide
  have hlm : (sig m).log2 < 53 := (Nat.log2_lt (by have := sig_pos hm0; omega)).2 (by have := sig_lt m; omega)
  have hq := quo_hi (sig m) (sig TWO) more (e + ex TWO) (ex m + K) (fun d hd => by
      rw [sig_TWO] at hd
      rcases Nat.lt_or_ge 52 d with g | g
      · have h1 : 2 ^ 53 ≤ 2 ^ d := Nat.pow_le_pow_right (by omega) g
        have h2 : 1 * 2 ^ d ≤ sig m * 2 ^ d := Nat.mul_le_mul_right _ (sig_pos hm0)
        omega
      · omega) (by
      have e1 : sig TWO * 2 ^ (e + ex TWO) = 2 ^ (e + 1) * 2 ^ K := by
        rw [sig_TWO, pow52, ← Nat.pow_add, show 52 + (e + ex TWO) = e + 1 + K from by rw [ex_TWO, K_eq]; omega]
      have e2 : sig m * 2 ^ (ex m + K) = val m * 2 ^ K := by rw [Nat.pow_add, ← Nat.mul_assoc]; rfl
      rw [e1, e2]
      exact Nat.mul_lt_mul_of_pos_right hlt (pow_pos _))
  rw [hmag] at hq
  have hin := (scale_ge mag e (e + ex TWO) (ex m + K) up down more (ex TWO) rfl (by rw [K_eq]; omega)).1 hq
  have g := near_hi mag _ up down hz hpos 1 e (by omega) hin
  rw [Nat.one_mul] at g; exact g
theorem half_inf : Ieee.double.div INF TWO = some INF := div_inf TWO_lt

end Go.Proofs.Qxb6619576aFmt.Fl

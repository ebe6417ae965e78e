/-
  Seat b6619576aF: PLAIN: what Commitment and HashRate give, over words of binary64. No Go in sight.
-/
import Derived.Test.Qxb6619576aFmtOpt
namespace Go.Proofs.Qxb6619576aFmt.Fl

/-- The word of a count. -/
def ofN (k : Nat) : Nat := Ieee.double.nearest false k 0
theorem sig_INF : sig INF = 4503599627370496 := by decide
theorem ex_INF : ex INF = 2046 := by decide
theorem ofN_le (k : Nat) : ofN k ≤ INF := near_le _ _
theorem ofN_ok (k : Nat) (h1 : 1 ≤ k) (h2 : k ≤ 4096) : 0 < ofN k ∧ ofN k < INF ∧ val (ofN k) = k * 2 ^ K := by
  have hup : (0 : Int) + 1074 = ((K : Nat) : Int) - ((0 : Nat) : Int) := by rw [K_eq]; omega
  have hhi := near_hi k 0 K 0 hup (by omega) k K (by omega) (by rw [Nat.pow_zero, Nat.mul_one]; exact Nat.le_refl _)
  have hlo := near_lo k 0 K 0 hup (by omega) k K (by omega) (by rw [Nat.pow_zero, Nat.mul_one]; exact Nat.le_refl _)
  have hne : Ieee.double.nearest false k 0 ≠ INF := by
    intro e
    rw [e] at hhi
    have hv : val INF = 2 ^ (52 + ex INF) := by unfold val; rw [sig_INF, pow52]
    have h3 : 4096 * 2 ^ K < val INF := by
      rw [hv, show (4096 : Nat) = 2 ^ 12 from by decide, ← Nat.pow_add]
      exact Nat.pow_lt_pow_right (by omega) (by rw [ex_INF, K_eq]; omega)
    have h4 : k * 2 ^ K ≤ 4096 * 2 ^ K := Nat.mul_le_mul_right _ h2
    omega
  have hle : Ieee.double.nearest false k 0 ≤ INF := near_le _ _
  have hval : val (Ieee.double.nearest false k 0) = k * 2 ^ K := by
    rcases hlo with g | g
    · exact absurd g hne
    · omega
  have hp : 0 < val (Ieee.double.nearest false k 0) := by rw [hval]; exact Nat.mul_pos (by omega) (pow_pos _)
  exact ⟨pos_of_val hp, by unfold ofN; omega, hval⟩

/-! ### the sum of the window -/
def sumW (cs : List Nat) : Nat := cs.foldl addW 0
theorem sum_snoc (cs : List Nat) (c : Nat) : sumW (cs ++ [c]) = addW (sumW cs) c := by simp [sumW, List.foldl_append]

/-- All words of a list are positive and no NaN, none below m. -/
def Above (m : Nat) (cs : List Nat) : Prop := ∀ c ∈ cs, m ≤ c ∧ c ≤ INF
theorem above_snoc {m : Nat} {cs : List Nat} {c : Nat} (h : Above m (cs ++ [c])) : Above m cs ∧ m ≤ c ∧ c ≤ INF :=
  ⟨fun x hx => h x (by simp [hx]), h c (by simp)⟩

theorem list_snoc {cs : List Nat} : cs = [] ∨ ∃ l c, cs = l ++ [c] := by
  rcases List.eq_nil_or_concat cs with h | ⟨l, c, h⟩
  · exact Or.inl h
  · exact Or.inr ⟨l, c, by rw [h, List.concat_eq_append]⟩

theorem sum_le (n : Nat) : ∀ (cs : List Nat), cs.length = n → Above 0 cs → sumW cs ≤ INF := by
  induction n with
  | zero => intro cs h _; rw [List.length_eq_zero_iff.1 h]; exact Nat.zero_le _
  | succ n ih =>
    intro cs h ha
    rcases list_snoc (cs := cs) with rfl | ⟨l, c, rfl⟩
    · simp at h
    · obtain ⟨h1, h2⟩ := above_snoc ha
      rw [sum_snoc]
      exact (add_some (ih l (by simpa using h) h1) h2.2).2
theorem above_zero {m : Nat} {cs : List Nat} (h : Above m cs) : Above 0 cs := fun c hc => ⟨Nat.zero_le _, (h c hc).2⟩
theorem sum_inf (n : Nat) : ∀ (cs : List Nat), cs.length = n → 0 < n → Above INF cs → sumW cs = INF := by
  induction n with
  | zero => intro cs _ h _; omega
  | succ n ih =>
    intro cs h _ ha
    rcases list_snoc (cs := cs) with rfl | ⟨l, c, rfl⟩
    · simp at h
    · obtain ⟨h1, h2⟩ := above_snoc ha
      rw [sum_snoc, show c = INF from by omega]
      exact add_inf_right (sum_le l.length l rfl (above_zero h1))
theorem sum_lo (m e : Nat) (he : 2 ^ e ≤ val m) (n : Nat) : ∀ (cs : List Nat), cs.length = n → n ≤ 4096 → Above m cs → (sumW cs = INF ∨ n * 2 ^ e ≤ val (sumW cs)) := by
  induction n with
  | zero => intro cs _ _ _; right; omega
  | succ n ih =>
    intro cs h hn ha
    rcases list_snoc (cs := cs) with rfl | ⟨l, c, rfl⟩
    · simp at h
    · obtain ⟨h1, h2⟩ := above_snoc ha
      rw [sum_snoc]
      have hl : l.length = n := by simpa using h
      have hsl := sum_le l.length l rfl (above_zero h1)
      rcases ih l hl (by omega) h1 with g | g
      · left; rw [g]; exact add_inf_left h2.2
      · refine add_lo hsl h2.2 (n + 1) e (by omega) ?_
        have := val_le h2.1
        rw [Nat.add_mul, Nat.one_mul]; omega
theorem sum_pos (cs : List Nat) (hne : 0 < cs.length) (h : Above 1 cs) : 0 < sumW cs := by
  rcases list_snoc (cs := cs) with rfl | ⟨l, c, rfl⟩
  · simp at hne
  · obtain ⟨h1, h2⟩ := above_snoc h
    rw [sum_snoc]
    exact add_pos (sum_le l.length l rfl (above_zero h1)) h2.2 (by omega)

/-- The mean of a window of n words, none below m > 0: a positive word, not below half of m. -/
theorem mean_ok (cs : List Nat) (m n : Nat) (hlen : cs.length = n) (h1 : 1 ≤ n) (h2 : n ≤ 4096) (hm : 0 < m) (ha : Above m cs) :
    Ieee.double.div (sumW cs) (ofN n) = some (divW (sumW cs) (ofN n)) ∧ 0 < divW (sumW cs) (ofN n) ∧ divW (sumW cs) (ofN n) ≤ INF ∧ divW m TWO ≤ divW (sumW cs) (ofN n) := by
  obtain ⟨w0, w1, wv⟩ := ofN_ok n h1 h2
  have hsl := sum_le n cs hlen (above_zero ha)
  have hsp : 0 < sumW cs := sum_pos cs (by omega) (fun c hc => ⟨by have := (ha c hc).1; omega, (ha c hc).2⟩)
  obtain ⟨d1, d2, d3⟩ := div_lo hsl hsp w1 w0 wv
  have hvm := val_pos hm
  have hl1 : 2 ^ (val m).log2 ≤ val m := Nat.log2_self_le (by omega)
  have hl2 : val m < 2 ^ ((val m).log2 + 1) := Nat.lt_log2_self
  generalize (val m).log2 = e at *
  have hmean : divW (sumW cs) (ofN n) = INF ∨ 2 ^ e ≤ val (divW (sumW cs) (ofN n)) := by
    rcases sum_lo m e hl1 n cs hlen h2 ha with g | g
    · left
      rw [g]
      have := div_inf w1
      unfold divW; rw [this]; rfl
    · exact d3 e g
  have hmi : m ≤ INF := by
    rcases list_snoc (cs := cs) with rfl | ⟨l, c, rfl⟩
    · simp at hlen; omega
    · have := above_snoc ha; omega
  refine ⟨d1, ?_, d2, ?_⟩
  · rcases hmean with g | g
    · rw [g, INF_eq]; omega
    · exact pos_of_val (by have := pow_pos e; omega)
  · by_cases hi : m = INF
    · subst hi
      have hsum := sum_inf n cs hlen (by omega) ha
      have := div_inf w1
      rw [hsum]
      have e1 : divW INF (ofN n) = INF := by unfold divW; rw [this]; rfl
      have e2 : divW INF TWO = INF := by unfold divW; rw [half_inf]; rfl
      rw [e1, e2]; exact Nat.le_refl _
    · obtain ⟨_, hh2, hh3⟩ := half_hi (show m < INF by omega) hm
      rcases hmean with g | g
      · rw [g]; exact hh2
      · exact le_of_val (Nat.le_trans (hh3 e hl2) g)

/-- What Commitment gives at a change block. -/
def commW (rise share : Nat) (cs : List Nat) (n : Nat) : Nat := min share (mulW rise (divW (sumW cs) (ofN n)))

theorem comm_ok (rise share : Nat) (cs : List Nat) (m n : Nat) (hlen : cs.length = n) (h1 : 1 ≤ n) (h2 : n ≤ 4096) (hm : 0 < m) (ha : Above m cs)
    (hr : ONE ≤ rise) (hri : rise ≤ INF) (hs : 0 < share) :
    Ieee.double.mul rise (divW (sumW cs) (ofN n)) = some (mulW rise (divW (sumW cs) (ofN n))) ∧ mulW rise (divW (sumW cs) (ofN n)) ≤ INF ∧
      0 < commW rise share cs n ∧ commW rise share cs n ≤ share ∧ (share ≤ divW m TWO → commW rise share cs n = share) := by
  obtain ⟨_, p1, p2, p3⟩ := mean_ok cs m n hlen h1 h2 hm ha
  have hr0 : 0 < rise := by rw [ONE_eq] at hr; omega
  obtain ⟨q1, q2⟩ := mul_some hri p2 hr0 p1
  have q3 := mul_ge hr hri p1 p2
  refine ⟨q1, q2, ?_, Nat.min_le_left _ _, fun h => ?_⟩
  · unfold commW; omega
  · unfold commW; omega

/-! ### the hash rate -/
/-- The word of minus zero. -/
def MZ : Nat := 9223372036854775808
/-- The two bounds of the band, at a tolerance below 1. -/
theorem band {t : Nat} (h : t < ONE ∨ t = MZ) : Ieee.double.sub ONE t = some (subW ONE t) ∧ Ieee.double.add ONE t = some (addW ONE t) ∧ 0 < subW ONE t ∧ subW ONE t ≤ ONE ∧ ONE ≤ addW ONE t ∧ addW ONE t ≤ INF := by
  rcases h with h | h
  · obtain ⟨a1, a2, a3⟩ := one_sub h
    obtain ⟨b1, b2, b3⟩ := one_add (Nat.le_of_lt (Nat.lt_trans h ONE_lt))
    exact ⟨a1, b1, a2, a3, b2, b3⟩
  · subst h
    have e1 : Ieee.double.sub ONE MZ = some ONE := by decide +kernel
    have e2 : Ieee.double.add ONE MZ = some ONE := by decide +kernel
    have f1 : subW ONE MZ = ONE := by unfold subW; rw [e1]; rfl
    have f2 : addW ONE MZ = ONE := by unfold addW; rw [e2]; rfl
    rw [f1, f2]
    exact ⟨e1, e2, by rw [ONE_eq]; omega, Nat.le_refl _, Nat.le_refl _, Nat.le_of_lt ONE_lt⟩
def lowW (t c : Nat) : Nat := mulW (subW ONE t) c
def highW (t c : Nat) : Nat := mulW (addW ONE t) c
theorem band_ok {t c : Nat} (h : t < ONE ∨ t = MZ) (hc : 0 < c) (hci : c ≤ INF) :
    Ieee.double.mul (subW ONE t) c = some (lowW t c) ∧ Ieee.double.mul (addW ONE t) c = some (highW t c) ∧ lowW t c ≤ c ∧ c ≤ highW t c ∧ highW t c ≤ INF := by
  obtain ⟨_, _, a1, a2, b1, b2⟩ := band h
  have b0 : 0 < addW ONE t := by have := ONE_eq; omega
  obtain ⟨l1, _⟩ := mul_some (Nat.le_trans a2 (Nat.le_of_lt ONE_lt)) hci a1 hc
  obtain ⟨h1, h2⟩ := mul_some b2 hci b0 hc
  exact ⟨l1, h1, mul_le a2 a1 hc hci, mul_ge b1 b2 hc hci, h2⟩

/-! ### products of whatever words -/
theorem near_word (neg : Bool) (mag : Nat) (place : Int) : ∃ r, r ≤ INF ∧ Ieee.double.nearest neg mag place = Ieee.double.word neg r := by
  by_cases hm : mag = 0
  · refine ⟨0, Nat.zero_le _, ?_⟩
    simp only [Ieee.Format.nearest]; rw [if_pos hm]
  · simp only [Ieee.Format.nearest]; rw [if_neg hm, d_inf]
    exact ⟨_, Nat.min_le_right _ _, rfl⟩
theorem write_word (d : Ieee.Datum) (h : d.isNaN = false) : ∃ neg r, r ≤ INF ∧ Ieee.double.write d = Ieee.double.word neg r := by
  cases d with
  | number s m i => obtain ⟨r, h1, h2⟩ := near_word s m i; exact ⟨s, r, h1, h2⟩
  | infinity s => exact ⟨s, INF, Nat.le_refl _, by simp only [Ieee.Format.write, d_inf]⟩
  | nan s f => simp [Ieee.Datum.isNaN] at h
theorem order_word (neg : Bool) (r : Nat) (h : r ≤ INF) : Ieee.double.order (Ieee.double.word neg r) (Ieee.double.word neg r) = some .eq := by
  cases neg with
  | false => simp only [Ieee.Format.word, Bool.false_eq_true, if_false]; exact order_self h
  | true =>
    simp only [Ieee.Format.word, if_true, d_sw]
    by_cases hi : r = INF
    · subst hi; simp only [Ieee.Format.order, read_ninf, Ieee.Datum.order]; rfl
    · simp only [Ieee.Format.order, read_neg (show r < INF by omega), Ieee.Datum.order, cmp_eq]
theorem prod_nan {x y d : Ieee.Datum} (h : x.product y = some d) : d.isNaN = false := by
  cases x <;> cases y <;> simp only [Ieee.Datum.product] at h
  all_goals first
    | (cases h; done)
    | (injection h with h; subst h; rfl)
    | (split at h; (cases h; done); (injection h with h; subst h; rfl))
    | (split at h <;> first | (cases h; done) | (injection h with h; subst h; rfl))
/-- A valid product is no NaN; and it is a zero only as one of the two zeros. -/
theorem mul_self {x y r : Nat} (h : Ieee.double.mul x y = some r) : Ieee.double.order r r = some .eq ∧ (Ieee.double.order r 0 = some .eq → r = 0 ∨ r = MZ) := by
  unfold Ieee.Format.mul at h
  cases hp : (Ieee.double.read x).product (Ieee.double.read y) with
  | none => rw [hp] at h; cases h
  | some d =>
    rw [hp] at h
    simp only [Option.map_some, Option.some.injEq] at h
    obtain ⟨neg, q, hq, hw⟩ := write_word d (prod_nan hp)
    rw [hw] at h
    subst h
    refine ⟨order_word neg q hq, fun h0 => ?_⟩
    cases neg with
    | false =>
      simp only [Ieee.Format.word, Bool.false_eq_true, if_false] at h0 ⊢
      by_cases hz : q = 0
      · exact Or.inl hz
      · rw [order_gt (show 0 < q by omega) hq] at h0; cases h0
    | true =>
      simp only [Ieee.Format.word, if_true, d_sw] at h0 ⊢
      by_cases hz : q = 0
      · right; subst hz; rfl
      · have := kinds (x := 9223372036854775808 + q) (by rw [INF_eq] at hq; omega) (by
          have := order_word true q hq
          simp only [Ieee.Format.word, if_true, d_sw] at this
          exact this)
        rcases this with g | g | g
        · rw [INF_eq] at g; omega
        · omega
        · rw [g 0 (Nat.zero_le _)] at h0; cases h0
theorem inv_zero : Ieee.double.div ONE 0 = some INF := by decide +kernel
theorem inv_mz : Ieee.double.div ONE MZ = some (9223372036854775808 + INF) := by decide +kernel
theorem order_ninf : Ieee.double.order (9223372036854775808 + INF) (9223372036854775808 + INF) = some .eq := by decide +kernel
/-- The bits that Go leaves open are a NaN's. -/
theorem order_nan {x : Nat} (h : INF < x % 9223372036854775808) (y : Nat) : Ieee.double.order x y = none := by
  obtain ⟨s, f, e⟩ := read_nan h
  simp only [Ieee.Format.order, e, Ieee.Datum.order]

end Go.Proofs.Qxb6619576aFmt.Fl

/-
  THE PLAIN SIDE of seat b6619344a: the automaton over prefixes of unsigned JSON numbers, the scanner, and that the scanner stops at the longest viable prefix. No Go in sight.
-/
namespace Go.Proofs.Qxb6619344a.Num

/-- The byte at place i (0 beyond the end). -/
def ch (l : List Nat) (i : Nat) : Nat := l.getD i 0
/-- A digit of ASCII. -/
def dig (c : Nat) : Bool := decide (48 ≤ c ∧ c ≤ 57)
/-- 'e' or 'E'. -/
def expMark (c : Nat) : Bool := decide (c = 101 ∨ c = 69)
/-- '+' or '-'. -/
def sign (c : Nat) : Bool := decide (c = 43 ∨ c = 45)

/-- One step of the automaton (zzNumStep). -/
def step (st : Int) (c : Nat) : Int :=
  if st = 0 then (if c = 48 then 1 else if dig c then 2 else -1)
  else if st = 1 then (if c = 46 then 3 else if expMark c then 5 else -1)
  else if st = 2 then (if dig c then 2 else if c = 46 then 3 else if expMark c then 5 else -1)
  else if st = 3 then (if dig c then 4 else -1)
  else if st = 4 then (if dig c then 4 else if expMark c then 5 else -1)
  else if st = 5 then (if sign c then 6 else if dig c then 7 else -1)
  else if st = 6 ∨ st = 7 then (if dig c then 7 else -1)
  else -1

def complete (st : Int) : Bool := decide (st = 1 ∨ st = 2 ∨ st = 4 ∨ st = 7)

/-- The automaton over a list (zzNumRun). -/
def run (l : List Nat) : Int := l.foldl step 0

theorem step_dead (c : Nat) : step (-1) c = -1 := by simp [step]
theorem fold_dead (l : List Nat) : l.foldl step (-1) = -1 := by
  induction l with
  | nil => rfl
  | cons a l ih => simp [List.foldl_cons, step_dead, ih]

theorem step_range (st : Int) (c : Nat) : -1 ≤ step st c ∧ step st c ≤ 7 := by
  unfold step
  repeat' split
  all_goals omega
theorem step_neg {st : Int} {c : Nat} (h : step st c < 0) : step st c = -1 := by
  have := step_range st c; omega
theorem fold_range (l : List Nat) : ∀ st : Int, -1 ≤ st → st ≤ 7 → -1 ≤ l.foldl step st ∧ l.foldl step st ≤ 7 := by
  induction l with
  | nil => intro st h1 h2; exact ⟨h1, h2⟩
  | cons a l ih => intro st _ _; have := step_range st a; exact ih _ this.1 this.2
theorem run_range (l : List Nat) : -1 ≤ run l ∧ run l ≤ 7 := fold_range l 0 (by omega) (by omega)

theorem take_snoc (l : List Nat) (k : Nat) (h : k < l.length) : l.take (k + 1) = l.take k ++ [ch l k] := by
  rw [List.take_succ_eq_append_getElem h]; simp [ch, h]
theorem run_snoc (l : List Nat) (k : Nat) (h : k < l.length) : run (l.take (k + 1)) = step (run (l.take k)) (ch l k) := by
  rw [take_snoc l k h]; simp [run, List.foldl_append]

/-- Where the digits that begin at i end: 'fuel' rounds at most. -/
def digEnd (l : List Nat) : Nat → Nat → Nat
  | 0, i => i
  | f + 1, i => if i < l.length ∧ dig (ch l i) = true then digEnd l f (i + 1) else i

/-- The end of the run of digits from i. -/
def digits (l : List Nat) (i : Nat) : Nat := digEnd l (l.length - i) i

theorem digits_stop (l : List Nat) (i : Nat) (h : ¬ (i < l.length ∧ dig (ch l i) = true)) : digits l i = i := by
  unfold digits
  cases l.length - i with
  | zero => rfl
  | succ f => simp only [digEnd]; rw [if_neg h]
theorem digits_go (l : List Nat) (i : Nat) (h : i < l.length) (hd : dig (ch l i) = true) : digits l i = digits l (i + 1) := by
  unfold digits
  obtain ⟨f, hf⟩ : ∃ f, l.length - i = f + 1 := ⟨l.length - i - 1, by omega⟩
  rw [hf, show l.length - (i + 1) = f from by omega]
  simp only [digEnd]; rw [if_pos ⟨h, hd⟩]

/-- Induction over the digits' run. -/
theorem digits_ind (l : List Nat) (P : Nat → Prop) (f : Nat) : ∀ i, i ≤ l.length → l.length - i = f → P i → (∀ j, i ≤ j → j < l.length → dig (ch l j) = true → P j → P (j + 1)) →
    P (digits l i) ∧ i ≤ digits l i ∧ digits l i ≤ l.length ∧ (digits l i < l.length → dig (ch l (digits l i)) = false) := by
  induction f with
  | zero =>
    intro i hi hf hp _
    rw [digits_stop l i (by omega)]
    exact ⟨hp, Nat.le_refl _, hi, fun h => by omega⟩
  | succ f ih =>
    intro i hi hf hp hs
    by_cases hd : dig (ch l i) = true
    · rw [digits_go l i (by omega) hd]
      have := ih (i + 1) (by omega) (by omega) (hs i (Nat.le_refl _) (by omega) hd hp) (fun j hj => hs j (by omega))
      exact ⟨this.1, by omega, this.2.2.1, this.2.2.2⟩
    · rw [digits_stop l i (by simp [hd])]
      exact ⟨hp, Nat.le_refl _, hi, fun _ => by simpa using hd⟩

theorem digits_facts (l : List Nat) (i : Nat) (hi : i ≤ l.length) : i ≤ digits l i ∧ digits l i ≤ l.length ∧ (digits l i < l.length → dig (ch l (digits l i)) = false) :=
  (digits_ind l (fun _ => True) _ i hi rfl trivial (fun _ _ _ _ _ => trivial)).2

/-- The scanner (ScanNumber): behind the whole part, at i. -/
def scanExp (l : List Nat) (i : Nat) : Nat × Bool :=
  if i < l.length ∧ expMark (ch l i) = true then
    let j := if i + 1 < l.length ∧ sign (ch l (i + 1)) = true then i + 2 else i + 1
    (digits l j, decide (j < digits l j))
  else (i, true)
def scanFrac (l : List Nat) (i : Nat) : Nat × Bool :=
  if i < l.length ∧ ch l i = 46 then
    (if i + 1 < digits l (i + 1) then scanExp l (digits l (i + 1)) else (digits l (i + 1), false))
  else scanExp l i
def scan (l : List Nat) : Nat × Bool :=
  if 0 < l.length ∧ ch l 0 = 48 then scanFrac l 1
  else if 0 < digits l 0 then scanFrac l (digits l 0) else (0, false)

/-- What is claimed of an answer. -/
structure Good (l : List Nat) (r : Nat × Bool) : Prop where
  le : r.1 ≤ l.length
  live : 0 ≤ run (l.take r.1)
  stop : r.1 < l.length → step (run (l.take r.1)) (ch l r.1) < 0
  ok : r.2 = complete (run (l.take r.1))

theorem mkGood {l : List Nat} {n : Nat} {b : Bool} {st : Int} (h : run (l.take n) = st) (le : n ≤ l.length) (live : 0 ≤ st) (stop : n < l.length → step st (ch l n) < 0) (ok : b = complete st) : Good l (n, b) :=
  ⟨le, by rw [h]; exact live, by rw [h]; exact stop, by rw [h]; exact ok⟩

theorem digits_run (l : List Nat) (i : Nat) (st : Int) (hi : i ≤ l.length) (h : run (l.take i) = st) (hd : ∀ c, dig c = true → step st c = st) : run (l.take (digits l i)) = st :=
  (digits_ind l (fun k => run (l.take k) = st) _ i hi rfl h (fun j _ hj hdj hp => by rw [run_snoc l j hj, hp]; exact hd _ hdj)).1

/-- From a state st that turns into st' at a digit and stays there. -/
theorem digits_run' (l : List Nat) (i : Nat) (st st' : Int) (_hi : i ≤ l.length) (h : run (l.take i) = st) (hd : ∀ c, dig c = true → step st c = st') (hd' : ∀ c, dig c = true → step st' c = st') (hlt : i < digits l i) :
    run (l.take (digits l i)) = st' := by
  by_cases hc : i < l.length ∧ dig (ch l i) = true
  · rw [digits_go l i hc.1 hc.2]
    exact digits_run l (i + 1) st' (by omega) (by rw [run_snoc l i hc.1, h]; exact hd _ hc.2) hd'
  · rw [digits_stop l i hc] at hlt; omega

theorem scanExp_good (l : List Nat) (i : Nat) (st : Int) (hi : i ≤ l.length) (h : run (l.take i) = st) (hst : st = 1 ∨ st = 2 ∨ st = 4)
    (hdig : st ≠ 1 → i < l.length → dig (ch l i) = false) (hpt : st ≠ 4 → i < l.length → ch l i ≠ 46) : Good l (scanExp l i) := by
  unfold scanExp
  split
  · next hc =>
    obtain ⟨h1, h2⟩ := hc
    have r1 : run (l.take (i + 1)) = 5 := by
      rw [run_snoc l i h1, h]
      have hnd : dig (ch l i) = false := by
        simp only [expMark, decide_eq_true_eq] at h2
        simp only [dig, decide_eq_false_iff_not]; omega
      have hnp : ch l i ≠ 46 := by simp only [expMark, decide_eq_true_eq] at h2; omega
      rcases hst with rfl | rfl | rfl <;> simp [step, h2, hnd, hnp] <;> omega
    by_cases hs : i + 1 < l.length ∧ sign (ch l (i + 1)) = true
    · simp only [if_pos hs]
      have r2 : run (l.take (i + 2)) = 6 := by
        rw [run_snoc l (i + 1) hs.1, r1]; simp only [step]; simp [hs.2]
      have hf := digits_facts l (i + 2) (by omega)
      by_cases hlt : i + 2 < digits l (i + 2)
      · have r3 := digits_run' l (i + 2) 6 7 (by omega) r2 (fun c hc => by simp [step, hc]) (fun c hc => by simp [step, hc]) hlt
        exact mkGood r3 hf.2.1 (by omega) (fun hl => by simp [step, hf.2.2 hl]) (by simp [hlt, complete])
      · have e : digits l (i + 2) = i + 2 := by omega
        rw [e] at hf ⊢
        exact mkGood r2 hf.2.1 (by omega) (fun hl => by simp [step, hf.2.2 hl]) (by simp [complete])
    · simp only [if_neg hs]
      have hf := digits_facts l (i + 1) (by omega)
      by_cases hlt : i + 1 < digits l (i + 1)
      · have hnz : sign (ch l (i + 1)) = true → False := fun h => hs ⟨by omega, h⟩
        have r3 : run (l.take (digits l (i + 1))) = 7 :=
          digits_run' l (i + 1) 5 7 (by omega) r1 (fun c hc => by
            have : sign c = false := by
              simp only [dig, decide_eq_true_eq] at hc
              simp only [sign, decide_eq_false_iff_not]; omega
            simp [step, hc, this]) (fun c hc => by simp [step, hc]) hlt
        exact mkGood r3 hf.2.1 (by omega) (fun hl => by simp [step, hf.2.2 hl]) (by simp [hlt, complete])
      · have e : digits l (i + 1) = i + 1 := by omega
        rw [e] at hf ⊢
        refine mkGood r1 hf.2.1 (by omega) (fun hl => ?_) (by simp [complete])
        have : sign (ch l (i + 1)) = false := by
          cases hq : sign (ch l (i + 1)) with
          | false => rfl
          | true => exact absurd ⟨hl, hq⟩ hs
        simp only [step]; simp [hf.2.2 hl, this]
  · next hc =>
    refine mkGood h hi (by omega) (fun hl => ?_) (by rcases hst with rfl | rfl | rfl <;> simp [complete])
    have he : expMark (ch l i) = false := by
      cases hq : expMark (ch l i) with
      | false => rfl
      | true => exact absurd ⟨hl, hq⟩ hc
    rcases hst with rfl | rfl | rfl
    · have := hpt (by omega) hl
      simp [step, he, this]
    · have h1 := hpt (by omega) hl
      have h2 := hdig (by omega) hl
      simp [step, he, h1, h2]
    · have h2 := hdig (by omega) hl
      simp [step, he, h2]

theorem scanFrac_good (l : List Nat) (i : Nat) (st : Int) (hi : i ≤ l.length) (h : run (l.take i) = st) (hst : st = 1 ∨ st = 2)
    (hdig : st ≠ 1 → i < l.length → dig (ch l i) = false) : Good l (scanFrac l i) := by
  unfold scanFrac
  split
  · next hc =>
    obtain ⟨h1, h2⟩ := hc
    have r1 : run (l.take (i + 1)) = 3 := by
      rw [run_snoc l i h1, h, h2]
      rcases hst with rfl | rfl <;> simp [step, dig]
    have hf := digits_facts l (i + 1) (by omega)
    split
    · next hlt =>
      have r3 := digits_run' l (i + 1) 3 4 (by omega) r1 (fun c hc => by simp [step, hc]) (fun c hc => by simp [step, hc]) hlt
      exact scanExp_good l _ 4 hf.2.1 r3 (by omega) (fun _ => hf.2.2) (fun h => absurd rfl h)
    · next hlt =>
      have e : digits l (i + 1) = i + 1 := by omega
      rw [e] at hf ⊢
      exact mkGood r1 hf.2.1 (by omega) (fun hl => by simp [step, hf.2.2 hl]) (by simp [complete])
  · next hc =>
    exact scanExp_good l i st hi h (by omega) hdig (fun _ hl hp => hc ⟨hl, hp⟩)

theorem scan_good (l : List Nat) : Good l (scan l) := by
  unfold scan
  split
  · next hc =>
    have r1 : run (l.take 1) = 1 := by
      rw [run_snoc l 0 hc.1, hc.2]; simp [run, step]
    exact scanFrac_good l 1 1 (by omega) r1 (by omega) (fun h => absurd rfl h)
  · next hc =>
    have hf := digits_facts l 0 (by omega)
    split
    · next hlt =>
      have h0 : 0 < l.length ∧ dig (ch l 0) = true := by
        by_cases h : 0 < l.length ∧ dig (ch l 0) = true
        · exact h
        · rw [digits_stop l 0 h] at hlt; omega
      have hn : ch l 0 ≠ 48 := fun e => hc ⟨h0.1, e⟩
      have r1 : run (l.take (0 + 1)) = 2 := by
        rw [run_snoc l 0 h0.1]
        simp only [run, List.take_zero, List.foldl_nil, step, if_pos, if_neg hn, h0.2]
      have e := digits_go l 0 h0.1 h0.2
      have r2 := digits_run l 1 2 (by omega) r1 (fun c hc => by simp [step, hc])
      rw [e] at hf ⊢
      exact scanFrac_good l _ 2 hf.2.1 r2 (by omega) (fun _ => hf.2.2)
    · next hlt =>
      have e : digits l 0 = 0 := by omega
      rw [e] at hf
      refine mkGood (st := 0) (by simp [run]) (by omega) (by omega) (fun hl => ?_) (by simp [complete])
      have hn : ch l 0 ≠ 48 := fun e => hc ⟨hl, e⟩
      simp only [step, if_pos, if_neg hn, hf.2.2 hl]; simp

/-- The scanner reads the whole list and finds it complete just where the automaton does. -/
theorem whole (l : List Nat) : ((scan l).2 && decide ((scan l).1 = l.length)) = (decide (0 ≤ run l) && complete (run l)) := by
  have g := scan_good l
  by_cases hn : (scan l).1 = l.length
  · have e : run (l.take (scan l).1) = run l := by rw [hn, List.take_length]
    have hl := g.live
    rw [e] at hl
    rw [g.ok, e]; simp [hn, hl]
  · have hlt : (scan l).1 < l.length := by have := g.le; omega
    have hs := step_neg (g.stop hlt)
    have e : run l = -1 := by
      have h1 : run (l.take ((scan l).1 + 1)) = -1 := by rw [run_snoc l _ hlt]; exact hs
      have h2 : l = l.take ((scan l).1 + 1) ++ l.drop ((scan l).1 + 1) := (List.take_append_drop _ _).symm
      rw [h2]; simp only [run, List.foldl_append]
      have h3 : List.foldl step 0 (l.take ((scan l).1 + 1)) = -1 := h1
      rw [h3]; exact fold_dead _
    simp [hn, e]

/-- A number that opens with a minus is none for the automaton. -/
theorem run_minus (l : List Nat) (h : 0 < l.length) (hm : ch l 0 = 45) : run l = -1 := by
  cases l with
  | nil => simp at h
  | cons a l =>
    simp [ch] at hm; subst hm
    have : step 0 45 = -1 := by simp [step, dig]
    simp only [run, List.foldl_cons, this]
    exact fold_dead l

end Go.Proofs.Qxb6619344a.Num

/-
  Seat b6619576aF: the told card of FnBondedNextRun (IMPORT).
-/
import Derived.Test.Qxb6619576aFmtRows
import Derived.Test.Qxb6619576aFmtCards
import Derived.Test.Qxb6619576aFmtMain
import Derived.ProofKit
import Derived.OpenShut
import Derived.ChangeOld
import Derived.Deep.Slices
import Derived.Stop.JoinedTold
import Derived.SevenToldRow
namespace Go.Proofs.Qxb6619576aFmt
open Go.RowKit
/-- A slice of floats: nil, or a row of cells. -/
def FRow (w : World) (a : Option Addr) (len cap : Nat) (f : Nat → Nat) : Prop :=
  (∀ i, f i < 18446744073709551616) ∧ ((a = none ∧ len = 0 ∧ cap = 0) ∨ ∃ x, a = some x ∧ len ≤ cap ∧ cap ≤ maxLen ∧ ∀ i, i < len → w.cell? (x.add i) = some (.float .f64 (f i)))
theorem law_all (tol rise target : Nat) (window every : Int) (a : Option Addr) (n n' : Nat) (f : Nat → Nat) (b : Option Addr) (m m' : Nat) (g : Nat → Nat) (w : World) (ha : FRow w a n n' f) (hb : FRow w b m m' g)
    (ht : tol < 18446744073709551616) (hr : rise < 18446744073709551616) :
    Calls Tryf.prog 3 #[.float .f64 tol, .float .f64 rise, .int .i64 window, .int .i64 every, .slice a n n', .slice b m m', .float .f64 target] w fun e w' => e = .returned (.bool true) ∧ Below w.heap.size w w' := by
  obtain ⟨hf, h0⟩ := ha
  obtain ⟨hg, h1⟩ := hb
  have hn : n ≤ maxLen := by
    rcases h0 with ⟨_, e, _⟩ | ⟨_, _, e1, e2, _⟩
    · rw [e]; exact Nat.zero_le _
    · exact Nat.le_trans e1 e2
  have hm : m ≤ maxLen := by
    rcases h1 with ⟨_, e, _⟩ | ⟨_, _, e1, e2, _⟩
    · rw [e]; exact Nat.zero_le _
    · exact Nat.le_trans e1 e2
  by_cases hs : n ≤ 4096 ∧ m ≤ 4096
  · by_cases hG : Good tol rise window every n m
    · rcases h0 with ⟨_, rfl, _⟩ | ⟨x, rfl, _, _, hc⟩
      · have a1 := hG.w1
        have a2 := hG.wn
        omega
      · obtain ⟨win, rfl⟩ : ∃ k : Nat, window = k := ⟨window.toNat, by have := hG.w1; omega⟩
        refine law_main tol rise target win every x n n' f b m m' g w hG hc hf (fun h => ?_) hg (fun h => ?_) ht hr
        · rcases h1 with ⟨_, rfl, _⟩ | ⟨y, rfl, _, _, hd⟩
          · omega
          · exact ⟨y, rfl, hd⟩
        · rcases h1 with ⟨_, e1, e2⟩ | ⟨y, e, _, _, _⟩
          · exact ⟨e1, e2⟩
          · rw [h] at e; cases e
    · exact (early_rest tol rise target window every a b n n' m m' hs.1 hs.2 w hG).mono fun e w' ⟨h1, h2⟩ => ⟨h1, by rw [h2]; exact Below.refl _ _⟩
  · exact (early_size tol rise target window every a b n n' m m' hn hm w hs).mono fun e w' ⟨h1, h2⟩ => ⟨h1, by rw [h2]; exact Below.refl _ _⟩
end Go.Proofs.Qxb6619576aFmt
namespace Go.Proofs.Qxb6619576aFmt.fnBondedNextRun
open Go.ChangeShapes Go.WideShapes Go.ChangeAt Go.RowKit
open Go.Extern.Stop Go.Stop Go.Extern
set_option linter.unusedVariables false

theorem own : ownKnob Tryf.prog.godebug = none := by kernel_rfl
theorem laidOut : laidOutB Tryf.prog = true := by kernel_rfl
theorem cells22 : Tryf.prog.cellsOf 22 = 1 := by kernel_rfl
theorem stops : Tryf.pinned.checked.prog.stops = ["fmt.errorf"] := by kernel_rfl
theorem stopKnobs : Tryf.pinned.checked.prog.stopKnobs = [] := by kernel_rfl
theorem quiet (os : Os) : Stop.quiet Tryf.pinned.checked.prog os := by
  intro k hk
  rw [stopKnobs] at hk
  cases hk

/-- A float cell's reading. -/
theorem trod_float {H : Type} {enc : TypeId × Value → H} {P : Program} {w : World} {base : Nat} {spare : Nat → Bool} {held : Bool} {t : TypeId} {fuel : Nat} {v : Value} {x : DataW H × List MemPlace} (ht : P.underlying t = some (.float .f64))
    (h : DataW.trod enc P w base spare held fuel t [v] = some x) : ∃ b, v = .float .f64 b ∧ b < 18446744073709551616 := by
  cases fuel with
  | zero => simp [DataW.trod] at h
  | succ n =>
    unfold DataW.trod at h
    rw [ht] at h
    cases v <;> simp at h
    rename_i k b
    obtain ⟨⟨rfl, hw⟩, _⟩ := h
    refine ⟨b, rfl, ?_⟩
    have h2 : b < 2 ^ 64 := by simpa [Lit.wf] using hw
    omega

/-- A slice of floats, opened. -/
theorem open_floats {H : Type} {enc : TypeId × Value → H} {W : World} {a : Option Addr} {len cap : Nat} {d : DataW H} {ps : List MemPlace}
    (h : DataW.Trod enc Tryf.prog W 0 (fun _ => true) true 23 (.slice a len cap) d ps) : ∃ f, FRow W a len cap f := by
  obtain ⟨fuel, hf⟩ := h
  rcases Deep.open_slice1 Tryf.underlying23 cells22 hf with ⟨hcs, _⟩ | ⟨x, l, c, m, n, V, D, Pl, hcs, _, hl, hm, hmm, _, hel⟩
  · simp [Value.cells] at hcs
    obtain ⟨rfl, rfl, rfl⟩ := hcs
    exact ⟨fun _ => 0, fun _ => by simp, Or.inl ⟨rfl, rfl, rfl⟩⟩
  · simp [Value.cells] at hcs
    obtain ⟨rfl, rfl, rfl⟩ := hcs
    simp only [if_true] at hmm
    have hall : ∀ i, i < len → ∃ b, W.cell? (x.add i) = some (.float .f64 b) ∧ b < 18446744073709551616 := fun i hi => by
      obtain ⟨h1, h2⟩ := hel i (by omega)
      obtain ⟨b, hb, hlt⟩ := trod_float Tryf.underlying22 h2
      exact ⟨b, by rw [h1, hb], hlt⟩
    obtain ⟨f, hf2⟩ := Deep.choose_lt (α := Nat) hall
    refine ⟨fun i => if i < len then f i else 0, fun i => ?_, Or.inr ⟨x, rfl, hl, hm, fun i hi => ?_⟩⟩
    · by_cases hi : i < len
      · simp only [if_pos hi]; exact (hf2 i hi).2
      · simp only [if_neg hi]; omega
    · simp only [if_pos hi]; exact (hf2 i hi).1

theorem float_lt {b : Nat} (h : (Lit.float .f64 b).wf = true) : b < 18446744073709551616 := by
  have h2 : b < 2 ^ 64 := by simpa [Lit.wf] using h
  omega

set_option maxRecDepth 100000 in
theorem lifted (os : Os) (started : os.Started) (H : Type) (enc : TypeId × Value → H) :
    ReturnsInTold none {} Tryf.checked os 3 .any Input.okWide ((OpenSpec.ofChange Rows.fnBondedNextRunSpec).preRow enc Tryf.prog Tryf.f3 [] false []) (fun F => ((OpenSpec.ofChange Rows.fnBondedNextRunSpec).at F).post enc Tryf.prog Tryf.f3 false true false false) (aloneAtReturn Tryf.prog) nothingAlways := by
  refine returnsInTold_of_row (C := Tryf.checked) (s := OpenSpec.ofChange Rows.fnBondedNextRunSpec) (by kernel_rfl) own started (by kernel_rfl) Tryf.func3
    (OpenSpec.witness_stopped (enc := enc) (C := Tryf.checked) false ⟨#[], #[.float .f64 0, .float .f64 0, .int .i64 0, .int .i64 0, .slice none 0 0, .slice none 0 0, .float .f64 0], []⟩ 8 (by kernel_rfl) (by kernel_rfl) (by kernel_rfl) (by kernel_rfl)) ?_
  intro F W base args ds gs before _ hF hval0 hW _ _ hsz _ _
  have hval : ∀ (j : Nat) t v, Tryf.f3.params[j]? = some t → args[j]? = some v → Value.okWide Tryf.prog W .any base t v := hval0
  have hW' := hW
  obtain ⟨p, q, hA0, hV, rfl, _, _⟩ := hW
  have hA : DataW.TrodAll enc Tryf.prog W 0 (fun _ => true) true Tryf.f3.params.toList args.toList ds p := hA0
  rw [Tryf.params3] at hA hval
  obtain ⟨v0, vs0, d0, ds0, p0, q0, hargs, rfl, rfl, h0, r0⟩ := trodAll_cons hA
  obtain ⟨v1, vs1, d1, ds1, p1, q1, rfl, rfl, rfl, h1, r1⟩ := trodAll_cons r0
  obtain ⟨v2, vs2, d2, ds2, p2, q2, rfl, rfl, rfl, h2, r2⟩ := trodAll_cons r1
  obtain ⟨v3, vs3, d3, ds3, p3, q3, rfl, rfl, rfl, h3, r3⟩ := trodAll_cons r2
  obtain ⟨v4, vs4, d4, ds4, p4, q4, rfl, rfl, rfl, h4, r4⟩ := trodAll_cons r3
  obtain ⟨v5, vs5, d5, ds5, p5, q5, rfl, rfl, rfl, h5, r5⟩ := trodAll_cons r4
  obtain ⟨v6, vs6, d6, ds6, p6, q6, rfl, rfl, rfl, h6, r6⟩ := trodAll_cons r5
  obtain ⟨rfl, rfl, rfl⟩ := trodAll_nil r6
  obtain rfl : args = #[v0, v1, v2, v3, v4, v5, v6] := by cases args; simp_all
  obtain ⟨rfl, rfl⟩ := trodVars_none hV
  obtain ⟨tol, rfl, rfl, rfl, w0⟩ := open_float Tryf.underlying22 (hval 0 22 v0 rfl rfl) h0
  obtain ⟨rise, rfl, rfl, rfl, w1⟩ := open_float Tryf.underlying22 (hval 1 22 v1 rfl rfl) h1
  obtain ⟨window, rfl, rfl, rfl, w2⟩ := open_int Tryf.underlying3 (hval 2 3 v2 rfl rfl) h2
  obtain ⟨every, rfl, rfl, rfl, w3⟩ := open_int Tryf.underlying3 (hval 3 3 v3 rfl rfl) h3
  obtain ⟨a4, len4, cap4, rfl⟩ := okWide_slice Tryf.underlying23 (hval 4 23 v4 rfl rfl)
  obtain ⟨a5, len5, cap5, rfl⟩ := okWide_slice Tryf.underlying23 (hval 5 23 v5 rfl rfl)
  obtain ⟨target, rfl, rfl, rfl, w6⟩ := open_float Tryf.underlying22 (hval 6 22 v6 rfl rfl) h6
  clear hA0 hval0
  have lt4 : ∀ x ∈ p4, x.block < W.heap.size := by obtain ⟨m, hm⟩ := h4; exact DataW.trod_lt m _ _ _ hm
  have lt5 : ∀ x ∈ p5, x.block < W.heap.size := by obtain ⟨m, hm⟩ := h5; exact DataW.trod_lt m _ _ _ hm
  obtain ⟨f4, e4⟩ := open_floats h4
  obtain ⟨f5, e5⟩ := open_floats h5
  refine (law_all tol rise target window every a4 len4 cap4 f4 a5 len5 cap5 f5 W e4 e5 (float_lt w0) (float_lt w1)).mono fun e W' ⟨he, bel⟩ => ?_
  subst he
  exact ⟨_, rfl, _, _, _, [], _, [], hW', trodAll_mk1 (shut_bool Tryf.underlying4 _),
    (trodAll_cons_mk (shut_float Tryf.underlying22 w0) (trodAll_cons_mk (shut_float Tryf.underlying22 w1) (trodAll_cons_mk (shut_int Tryf.underlying3 w2) (trodAll_cons_mk (shut_int Tryf.underlying3 w3)
      (trodAll_cons_mk (Below.trod laidOut (by kernel_rfl) (of_decide_eq_true (by kernel_rfl)) h4 bel lt4) (trodAll_cons_mk (Below.trod laidOut (by kernel_rfl) (of_decide_eq_true (by kernel_rfl)) h5 bel lt5) (trodAll_cons_mk (shut_float Tryf.underlying22 w6) trodAll_mk0))))))), rfl, bel.frame _, fun h => by cases h⟩

/-- THE STATEMENT. -/
theorem proved : Rows.FnBondedNextRunToldSaid :=
  Claim7.holds_of_told_any 3 Tryf.f3 "fmt.errorf" [] [] _ _ _ (by kernel_rfl) rfl rfl rfl laidOut (by kernel_rfl) rfl ⟨rfl, rfl, rfl, rfl, rfl, rfl, rfl⟩ rfl rfl (by kernel_rfl) (by kernel_rfl) Tryf.func3 (by kernel_rfl)
    (of_decide_eq_true (by kernel_rfl)) (by unfold Func.isWrapper; first | (rw [if_pos (by decide +kernel)]; kernel_rfl) | (rw [if_neg (by decide +kernel)]; exact ⟨rfl, rfl⟩)) stops.symm rfl stopKnobs.symm (by kernel_rfl)
    (by kernel_rfl) (by kernel_rfl) (by kernel_rfl) (by kernel_rfl) (by kernel_rfl) (by kernel_rfl) (by kernel_rfl) (by kernel_rfl) (by kernel_rfl) rfl (by kernel_rfl) rfl rfl
    rfl rfl
    rfl (by kernel_rfl) (by kernel_rfl) (by kernel_rfl) (by decide) (by kernel_rfl)
    (OpenClaim.moreEntering_of (by kernel_rfl) (by kernel_rfl) (by kernel_rfl) (by kernel_rfl) (by kernel_rfl) (by kernel_rfl) (by kernel_rfl) (by kernel_rfl) (by kernel_rfl) (by kernel_rfl))
    ⟨_, WideRow.started_initial, quiet _⟩
    (fun os started _ H enc _ => lifted os started H enc)
end Go.Proofs.Qxb6619576aFmt.fnBondedNextRun

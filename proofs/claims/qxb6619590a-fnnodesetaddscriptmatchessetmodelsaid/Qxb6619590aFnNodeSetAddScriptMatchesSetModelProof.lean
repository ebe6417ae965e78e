/-
  The proof of Rows.FnNodeSetAddScriptMatchesSetModelSaid.
-/
import Derived.Test.Qxb6619590aRows
import Derived.Test.Qxb6619590aMain
import Derived.WalkKit
import Derived.ProofKit
import Derived.OpenShut
import Derived.ChangeOld
import Derived.Below
import Derived.Deep.SlicePairs
namespace Go.Proofs.Qxb6619590a.fnNodeSetAddScriptMatchesSetModel
open Go.ChangeShapes Go.WideShapes Go.ChangeAt Go.RowKit
set_option linter.unusedVariables false
set_option linter.unusedSimpArgs false

theorem own : ownKnob Try.prog.godebug = none := by kernel_rfl
theorem laidOut : laidOutB Try.prog = true := by kernel_rfl

/-- A slice of int32 that came in. -/
def IRow (w : World) (a : Option Addr) (len cap : Nat) : Prop :=
  (a = none ∧ len = 0 ∧ cap = 0) ∨ ∃ x, a = some x ∧ len ≤ cap ∧ cap ≤ maxLen ∧ ∃ f : Nat → Int, ∀ i, i < len → w.cell? (x.add i) = some (.int .i32 (f i))
/-- A slice of NodeSetOp that came in. -/
def ORow (w : World) (a : Option Addr) (len cap : Nat) : Prop :=
  (a = none ∧ len = 0 ∧ cap = 0) ∨ ∃ x, a = some x ∧ len ≤ cap ∧ cap ≤ maxLen ∧ ∃ (ks : Nat → Int) (ins : Nat → Bool), ∀ i, i < len → w.cell? (x.add (i * 2)) = some (.int .i32 (ks i)) ∧ w.cell? (x.add (i * 2 + 1)) = some (.bool (ins i)) ∧ ks i ≤ 2147483647

set_option maxRecDepth 100000 in
set_option maxHeartbeats 2000000 in
theorem early (a0 a1 : Option Addr) (n n' m m' : Nat) (hn : n ≤ maxLen) (hm : m ≤ maxLen) (w : World) (h : ¬ (n ≤ 262144 ∧ m ≤ 131072 ∧ 4 * n + 8 * m ≤ 1048576)) :
    Calls Try.prog 3 #[.slice a0 n n', .slice a1 m m'] w fun e w' => e = .returned (.bool true) ∧ w' = w := by
  have HB := hide (bytes_calls a0 a1 n n' m m' hn hm w)
  by_cases hs : n + m ≤ 1048576
  · rw [decide_eq_true hs] at HB
    by_cases h1 : n ≤ 262144
    · by_cases h2 : m ≤ 131072
      · have h3 : ¬ 4 * n + 8 * m ≤ 1048576 := fun g => h ⟨h1, h2, g⟩
        clear h
        go_enter Try.func3, Try.ntmps3
        go_wp2_with fail
        refine HB.out.mono ?_
        rintro e w' ⟨rfl, rfl⟩
        go_wp2_with fail
        go_ret
        exact ⟨rfl, rfl⟩
      · clear h
        go_enter Try.func3, Try.ntmps3
        go_wp2_with fail
        refine HB.out.mono ?_
        rintro e w' ⟨rfl, rfl⟩
        go_wp2_with fail
        go_ret
        exact ⟨rfl, rfl⟩
    · clear h
      go_enter Try.func3, Try.ntmps3
      go_wp2_with fail
      refine HB.out.mono ?_
      rintro e w' ⟨rfl, rfl⟩
      go_wp2_with fail
      go_ret
      exact ⟨rfl, rfl⟩
  · rw [decide_eq_false hs] at HB
    clear h
    go_enter Try.func3, Try.ntmps3
    go_wp2_with fail
    refine HB.out.mono ?_
    rintro e w' ⟨rfl, rfl⟩
    go_wp2_with fail
    go_ret
    exact ⟨rfl, rfl⟩

theorem walk (a0 : Option Addr) (n n' : Nat) (a1 : Option Addr) (m m' : Nat) (w : World) (h0 : IRow w a0 n n') (h1 : ORow w a1 m m') :
    Calls Try.prog 3 #[.slice a0 n n', .slice a1 m m'] w fun e w' => e = .returned (.bool true) ∧ Below w.heap.size w w' := by
  have hn : n ≤ maxLen := by
    rcases h0 with ⟨_, e, _⟩ | ⟨_, _, e1, e2, _⟩
    · rw [e]; exact Nat.zero_le _
    · exact Nat.le_trans e1 e2
  have hm : m ≤ maxLen := by
    rcases h1 with ⟨_, e, _⟩ | ⟨_, _, e1, e2, _⟩
    · rw [e]; exact Nat.zero_le _
    · exact Nat.le_trans e1 e2
  by_cases hs : n ≤ 262144 ∧ m ≤ 131072 ∧ 4 * n + 8 * m ≤ 1048576
  · have hcl : Calls Try.prog 7 #[.slice a0 n n'] w fun e w' => (∃ ga, e = .returned (.slice ga n n)) ∧ Below w.heap.size w w' := by
      rcases h0 with ⟨rfl, rfl, rfl⟩ | ⟨x, rfl, _, _, f, hf⟩
      · exact clone_nil w
      · exact clone_some x n n' f hs.1 w hf
    rcases h1 with ⟨rfl, rfl, rfl⟩ | ⟨x, rfl, _, _, ks, ins, hk⟩
    · exact law_main a0 n n' none 0 0 (fun _ => 0) (fun _ => false) w hs.1 hs.2.1 hs.2.2 (fun h => by omega) (fun j hj => by omega) hcl
    · exact law_main a0 n n' (some x) m m' ks ins w hs.1 hs.2.1 hs.2.2 (fun _ => ⟨x, rfl, fun j hj => ⟨(hk j hj).1, (hk j hj).2.1⟩⟩) (fun j hj => (hk j hj).2.2) hcl
  · exact (early a0 a1 n n' m m' hn hm w hs).mono fun e w' ⟨g1, g2⟩ => ⟨g1, by rw [g2]; exact Below.refl _ _⟩

set_option maxRecDepth 100000 in
theorem lifted (os : Os) (started : os.Started) (H : Type) (enc : TypeId × Value → H) :
    ReturnsInHanded {} Try.checked os 3 .any (Rows.fnNodeSetAddScriptMatchesSetModelSpec.pre6 enc Try.prog Try.f3 Rows.fnNodeSetAddScriptMatchesSetModelRow.domain false) (Rows.fnNodeSetAddScriptMatchesSetModelSpec.post enc Try.prog Try.f3 false true false false) := by
  refine returnsInHanded_of_change (C := Try.checked) own started (by kernel_rfl) Try.func3
    (ChangeSpec.witness6 (enc := enc) (C := Try.checked) false ⟨#[], #[.slice none 0 0, .slice none 0 0], []⟩ 8 (by kernel_rfl) (by kernel_rfl) (by kernel_rfl) (by kernel_rfl)) ?_
  intro W base args ds gs before hval0 hW hcnd _
  have hval : ∀ (j : Nat) t v, Try.f3.params[j]? = some t → args[j]? = some v → Value.okWide Try.prog W .any base t v := hval0
  have hW' := hW
  obtain ⟨p, q, hA0, hV, rfl, hfz, hnd⟩ := hW
  have hA : DataW.TrodAll enc Try.prog W 0 (fun _ => true) true Try.f3.params.toList args.toList ds p := hA0
  rw [Try.params3] at hA hval
  obtain ⟨v0, vs0, d0, ds0, p0, q0, hargs, rfl, rfl, h0, r0⟩ := trodAll_cons hA
  obtain ⟨v1, vs1, d1, ds1, p1, q1, rfl, rfl, rfl, h1, r1⟩ := trodAll_cons r0
  obtain ⟨rfl, rfl, rfl⟩ := trodAll_nil r1
  obtain rfl : args = #[v0, v1] := by cases args; simp_all
  obtain ⟨rfl, rfl⟩ := trodVars_none hV
  obtain ⟨a0, len0, cap0, rfl⟩ := okWide_slice Try.underlying22 (hval 0 22 v0 rfl rfl)
  obtain ⟨a1, len1, cap1, rfl⟩ := okWide_slice Try.underlying23 (hval 1 23 v1 rfl rfl)
  have k0 := h0
  have k1 := h1
  have lt0 : ∀ x ∈ p0, x.block < W.heap.size := by obtain ⟨m, hm⟩ := k0; exact DataW.trod_lt m _ _ _ hm
  have lt1 : ∀ x ∈ p1, x.block < W.heap.size := by obtain ⟨m, hm⟩ := k1; exact DataW.trod_lt m _ _ _ hm
  have w0 : IRow W a0 len0 cap0 := by
    obtain ⟨fuel, hf⟩ := h0
    rcases open_ints Try.underlying22 Try.underlying21 (by kernel_rfl) hf with ⟨hcs, _⟩ | ⟨x, l, c, zs, hcs, _, hl, hm, hz, _, hcell, hwz⟩
    · simp [Value.cells] at hcs
      obtain ⟨rfl, rfl, rfl⟩ := hcs
      exact .inl ⟨rfl, rfl, rfl⟩
    · simp [Value.cells] at hcs
      obtain ⟨rfl, rfl, rfl⟩ := hcs
      have hz' : zs.length = cap0 := by simpa using hz
      exact .inr ⟨_, rfl, hl, hm, fun i => zs.getD i 0, fun i hi => hcell i (by omega)⟩
  have w1 : ORow W a1 len1 cap1 := by
    obtain ⟨fuel, hf⟩ := h1
    rcases Deep.open_slice_pairs Try.underlying23 Try.underlying26 (by kernel_rfl) rfl rfl (by kernel_rfl) (by kernel_rfl) hf with ⟨hcs, _⟩ | ⟨x, l, c, m, n, V0, V1, D0, D1, P0, P1, hcs, _, hl, hm, hmm, _, hel⟩
    · simp [Value.cells] at hcs
      obtain ⟨rfl, rfl, rfl⟩ := hcs
      exact .inl ⟨rfl, rfl, rfl⟩
    · simp [Value.cells] at hcs
      obtain ⟨rfl, rfl, rfl⟩ := hcs
      simp only [if_true] at hmm
      have hall : ∀ i, i < len1 → ∃ z : Int × Bool, W.cell? (x.add (i * 2)) = some (.int .i32 z.1) ∧ W.cell? (x.add (i * 2 + 1)) = some (.bool z.2) ∧ z.1 ≤ 2147483647 := fun i hi => by
        obtain ⟨e1, e2, e3, e4⟩ := hel i (by omega)
        obtain ⟨a, ha, _, hw⟩ := DataW.trod_int Try.underlying21 e3
        obtain ⟨b, hb, _⟩ := DataW.trod_bool Try.underlying4 e4
        injection ha with ha _
        injection hb with hb _
        refine ⟨(a, b), by rw [e1, ha], by rw [e2, hb], ?_⟩
        have hmax : IntKind.i32.max = 2147483647 := by decide
        simp only [Lit.wf, Bool.and_eq_true, decide_eq_true_iff] at hw
        have := hw.2
        show a ≤ 2147483647
        omega
      obtain ⟨f, hf2⟩ := Deep.choose_lt hall
      exact .inr ⟨x, rfl, hl, hm, fun i => (f i).1, fun i => (f i).2, hf2⟩
  clear hA0 hval0
  refine (walk a0 len0 cap0 a1 len1 cap1 W w0 w1).mono fun e W' ⟨he, bel⟩ => ?_
  subst he
  exact ⟨_, rfl, _, _, _, [], _, [], hW', trodAll_mk1 (shut_bool Try.underlying4 _), (trodAll_cons_mk (Below.trod laidOut (by kernel_rfl) (of_decide_eq_true (by kernel_rfl)) k0 bel lt0) (trodAll_cons_mk (Below.trod laidOut (by kernel_rfl) (of_decide_eq_true (by kernel_rfl)) k1 bel lt1) trodAll_mk0)), rfl, bel.frame _, fun h => by cases h⟩

theorem over : Rows.fnNodeSetAddScriptMatchesSetModelRow.holds Try.pinned (OpenSpec.ofChange Rows.fnNodeSetAddScriptMatchesSetModelSpec) :=
  OpenClaim.holds_of_wide 3 Try.f3 rfl rfl rfl rfl rfl rfl rfl ⟨rfl, rfl, rfl, rfl, rfl⟩ rfl rfl rfl rfl rfl (by kernel_rfl) Try.func3 (by kernel_rfl)
    (of_decide_eq_true (by kernel_rfl)) (by unfold Func.isWrapper; first | (rw [if_pos (by decide +kernel)]; kernel_rfl) | (rw [if_neg (by decide +kernel)]; exact ⟨rfl, rfl⟩))
    (fun os started H enc _ => lifted os started H enc)

/-- THE STATEMENT. -/
theorem proved : Rows.FnNodeSetAddScriptMatchesSetModelSaid := over
end Go.Proofs.Qxb6619590a.fnNodeSetAddScriptMatchesSetModel

/-
  Seat b6619365a: the walk of the law FnPrintableOctetsSpecCutIdempotent (3), out of its callees' contracts.
-/
import Derived.Test.Qxb6619365aSmall
import Derived.Laws.CopyOwn
import Derived.Deep.CutBlock
namespace Go.Proofs.Qxb6619365a
open Go.RowKit
set_option linter.unusedSimpArgs false

/-- A nil slice. -/
theorem law_nil (k : Int) (w : World) :
    Calls Try.prog 3 #[.slice none 0 0, .int .i64 k] w fun e w' => e = .returned (.bool true) ∧ Below w.heap.size w w' := by
  have hf : ∀ j : Nat, (0 : Int) ≤ (fun _ : Nat => (0 : Int)) j ∧ (fun _ : Nat => (0 : Int)) j ≤ 255 := fun _ => ⟨by simp, by simp⟩
  have hno : ∀ (wx : World) (a : Option Addr), Octs wx a 0 (fun _ => 0) := fun _ _ h => absurd h (by omega)
  have hne : ∀ wx : World, (binOp .neq 22 (.slice none 0 0) (.slice none 0 0)).run Try.prog wx = .ok (.bool false) wx := fun wx => by
    simpa using run_neq_slice_nil_any (P := Try.prog) wx 22 5 none 0 0 0 0 Try.underlying22
  by_cases hk : k = 0
  · subst hk
    go_enter Try.func3, Try.ntmps3
    go_wp2_with fail
    refine (bytes_calls none 0 0 0 (by simp [maxLen]) _).mono ?_
    rintro e w' ⟨rfl, rfl⟩
    go_wp2_with fail
    refine (zz_calls none 0 0 (fun _ => 0) hf (by omega) _ (hno _ _)).mono ?_
    rintro e w1 ⟨rfl, _, hb1⟩
    have H1 := hide hb1
    clear hb1
    go_wp2_with fail
    refine (zz_calls none 0 0 (fun _ => 0) hf (by omega) _ (hno _ _)).mono ?_
    rintro e w2 ⟨rfl, _, hb2⟩
    have H2 := hide hb2
    clear hb2
    go_wp2_with fail
    refine (zz_calls none 0 0 (fun _ => 0) hf (by omega) _ (hno _ _)).mono ?_
    rintro e w3 ⟨rfl, _, hb3⟩
    have H3 := hide hb3
    clear hb3
    go_wp2_with fail
    refine (zz_calls _ 0 0 (fun _ => 0) hf (by omega) _ (hno _ _)).mono ?_
    rintro e w4 ⟨rfl, _, hb4⟩
    have H4 := hide hb4
    clear hb4
    go_wp2_with fail
    refine wp_loop_rounds 1 ?_
    rw [rounds_succ]
    go_wp2_with fail
    go_ret
    have s1 := H1.out.size
    have s2 := H2.out.size
    have s3 := H3.out.size
    exact ⟨rfl, ((H1.out.trans (H2.out.mono s1)).trans (H3.out.mono (by omega))).trans (H4.out.mono (by omega))⟩
  · go_enter Try.func3, Try.ntmps3
    go_wp2_with fail
    refine (bytes_calls none 0 0 k (by simp [maxLen]) _).mono ?_
    rintro e w' ⟨rfl, rfl⟩
    go_wp2_with fail
    all_goals (go_ret; exact ⟨rfl, Below.refl _ _⟩)

/-- The copy's cells. -/
def cellsOf (f : Nat → Int) (n : Nat) : List Value := (List.range n).map (fun j => .int .u8 (f j))

theorem cellsOf_length (f : Nat → Int) (n : Nat) : (cellsOf f n).length = n := by simp [cellsOf]
theorem cellsOf_get (f : Nat → Int) (n j : Nat) (h : j < n) : (cellsOf f n)[j]? = some (.int .u8 (f j)) := by simp [cellsOf, h]

/-- 'copy(zzc, b)' behind 'zzc := make([]byte, len(b))'. -/
theorem copy_run (x : Addr) (len cap : Nat) (f : Nat → Int) (w : World) (hc : ∀ j, j < len → w.cell? (x.add j) = some (.int .u8 (f j))) :
    ∃ W2 : World, (Builtin.copy_ #[22, 22] 3 #[.slice (some ⟨w.heap.size, 0, none⟩) len len, .slice (some x) len cap]).run Try.prog (w.alloc (.cells (madeCells #[.int .u8 0] len) 5)) = .ok (.int .i64 len) W2 ∧
      W2.rowIs w.heap.size 5 len (fun j => .int .u8 (f j)) ∧ Below w.heap.size w W2 := by
  have hg : (w.alloc (.cells (madeCells #[.int .u8 0] len) 5)).heap[w.heap.size]? = some (.cells (madeCells #[.int .u8 0] len) 5 (0, 0)) := Deep.blk_alloc_new _ _
  have hrun := run_copy_row Try.prog (w.alloc (.cells (madeCells #[.int .u8 0] len) 5)) 22 22 3 5 w.heap.size 0 len len x len cap (madeCells #[.int .u8 0] len) 5 (cellsOf f len) Try.underlying22 (by kernel_rfl) hg
    (by rw [cellsOf_length]; exact (Nat.min_self len).symm)
    (fun j v hv => by
      have hj : j < len := by
        have h2 := (List.getElem?_eq_some_iff.1 hv).1
        rwa [cellsOf_length] at h2
      rw [cellsOf_get f len j hj] at hv
      exact ((((Below.refl w.heap.size w).alloc (Nat.le_refl _) _).cell (p := x.add j) (World.block_lt_of_cell? w _ (hc j hj))).trans (hc j hj)).trans hv)
    (by rw [cellsOf_length, size_madeCells]; omega)
    (fun v hv => by
      obtain ⟨j, _, rfl⟩ := List.mem_map.1 hv
      rfl)
  rw [cellsOf_length] at hrun
  refine ⟨_, hrun, ⟨_, setRow_heap _ _ _ _ _ _ hg, ?_, fun i hi => ?_⟩, ?_⟩
  · simp [cellsOf_length, size_madeCells]
  · simp only [List.take_zero, List.nil_append, List.getElem?_toArray]
    rw [List.getElem?_append_left (by rw [cellsOf_length]; exact hi), cellsOf_get f len i hi]
  · exact below_setRow ((Below.refl _ _).alloc (Nat.le_refl _) _) (Nat.le_refl _) _

theorem row_below {w w' : World} {b n : Nat} {t : TypeId} {f : Nat → Value} (h : w.rowIs b t n f) (hb : Below w.heap.size w w') : w'.rowIs b t n f := h.of_block (hb.block _ h.lt)
theorem octs_row {w : World} {b n m : Nat} {f : Nat → Int} (h : w.rowIs b 5 n (fun j => .int .u8 (f j))) (o : Nat) (ho : o + m ≤ n) : Octs w (some ⟨b, o, none⟩) m (fun j => f (o + j)) :=
  fun _ => ⟨b, o, rfl, h.lt, fun j hj => h.cell (by omega)⟩
theorem octs_row0 {w : World} {b n m : Nat} {f : Nat → Int} (h : w.rowIs b 5 n (fun j => .int .u8 (f j))) (ho : m ≤ n) : Octs w (some ⟨b, 0, none⟩) m f :=
  fun _ => ⟨b, 0, rfl, h.lt, fun j hj => by rw [Nat.zero_add]; exact h.cell (by omega)⟩

theorem octet_yes (c : Int) (h : 32 ≤ c) (h2 : c ≤ 126) (w : World) : Calls Try.prog 6 #[.int .u8 c] w fun e w' => e = .returned (.bool true) ∧ w' = w := by
  have e : isPr c = true := by simp [isPr, h, h2]
  have := octet_calls c w
  rw [e] at this
  exact this
theorem octet_no (c : Int) (h : ¬ (32 ≤ c ∧ c ≤ 126)) (w : World) : Calls Try.prog 6 #[.int .u8 c] w fun e w' => e = .returned (.bool false) ∧ w' = w := by
  have e : isPr c = false := by simp only [isPr, decide_eq_false_iff_not]; exact h
  have := octet_calls c w
  rw [e] at this
  exact this

set_option maxHeartbeats 1000000 in
theorem law_some (x : Addr) (len cap : Nat) (k : Int) (f : Nat → Int) (hf : ∀ j, 0 ≤ f j ∧ f j ≤ 255) (hlc : len ≤ cap) (hcm : cap ≤ maxLen) (w : World)
    (hc : ∀ j, j < len → w.cell? (x.add j) = some (.int .u8 (f j))) :
    Calls Try.prog 3 #[.slice (some x) len cap, .int .i64 k] w fun e w' => e = .returned (.bool true) ∧ Below w.heap.size w w' := by
  have hlm : len ≤ 9223372036854775807 := Nat.le_trans hlc hcm
  have hne : ∀ wx : World, (binOp .neq 22 (.slice (some x) len cap) (.slice none 0 0)).run Try.prog wx = .ok (.bool true) wx := fun wx => by
    simpa using run_neq_slice_nil_any (P := Try.prog) wx 22 5 (some x) len cap 0 0 Try.underlying22
  by_cases hn : len ≤ 1048576
  · have hmk := fun (wx : World) => run_make_row' (P := Try.prog) 22 5 (.int .u8 0) 1 Try.underlying22 info5 rfl .i64 .i64 len (by omega) (by omega) wx
    by_cases hk : 0 ≤ k ∧ k ≤ len
    · obtain ⟨hk0, hk1⟩ := hk
      obtain ⟨m, rfl⟩ := Int.eq_ofNat_of_zero_le hk0
      have hm : m ≤ len := by omega
      obtain ⟨W2, hcp, hrow, hbel⟩ := copy_run x len cap f w hc
      have H0 := hide hbel
      have HR0 := hide hrow
      clear hc hbel hrow
      go_enter Try.func3, Try.ntmps3
      go_wp2_with fail
      refine (bytes_calls _ len cap m (Nat.le_trans hlc hcm) _).mono ?_
      rintro e w' ⟨rfl, rfl⟩
      go_wp2_with fail
      refine (zz_calls _ len len f hf hn _ (octs_row0 HR0.out (Nat.le_refl _))).mono ?_
      rintro e w1 ⟨rfl, hr1, hb1⟩
      have H1 := hide hb1
      have HR1 := hide hr1
      clear hb1 hr1 hcp
      go_wp2_with fail
      refine (zz_calls _ m len f hf (by omega) _ (octs_row0 (row_below HR0.out H1.out) hm)).mono ?_
      rintro e w2 ⟨rfl, hr2, hb2⟩
      have H2 := hide hb2
      have HR2 := hide hr2
      clear hb2 hr2
      by_cases hml : m = len
      · subst hml
        go_wp2_with fail
        refine (zz_calls _ 0 0 (fun j => f (m + j)) (fun j => hf _) (by omega) _ (fun h => absurd h (by omega))).mono ?_
        rintro e w3 ⟨rfl, hr3, hb3⟩
        have H3 := hide hb3
        have HR3 := hide hr3
        clear hb3 hr3
        go_wp2_with fail
        refine (zz_calls _ m m (fun j => pr (f j)) (fun j => ⟨by have := pr_lo (f j); omega, by have := pr_hi (f j); omega⟩) (by omega) _ (octs_row0 (row_below (row_below HR1.out H2.out) H3.out) (Nat.le_refl _))).mono ?_
        rintro e w4 ⟨rfl, hr4, hb4⟩
        have H4 := hide hb4
        have Q0 := hide (row_below (row_below (row_below (row_below HR0.out H1.out) H2.out) H3.out) hb4)
        have Q1 := hide (row_below (row_below (row_below HR1.out H2.out) H3.out) hb4)
        have Q2 := hide (row_below (row_below HR2.out H3.out) hb4)
        have Q3 := hide (row_below HR3.out hb4)
        have Q4 := hide hr4
        have HB : Hid (Below w'.heap.size w' w4) := by
          have s0 := H0.out.size
          have s1 := H1.out.size
          have s2 := H2.out.size
          have s3 := H3.out.size
          exact (((H0.out.trans (H1.out.mono s0)).trans (H2.out.mono (by omega))).trans (H3.out.mono (by omega))).trans (H4.out.mono (by omega))
        clear hb4 hr4 H0 H1 H2 H3 H4 HR0 HR1 HR2 HR3
        go_wp2_with fail
        go_loop [11] (fun u => ∃ i : Nat, i ≤ m ∧ u = .int .i64 i) (fun u => m - (intOf u).toNat)
        case atStart => exact ⟨0, Nat.zero_le _, rfl⟩
        case round =>
          obtain ⟨i, hi, rfl⟩ := hrel
          by_cases hlt : i < m
          · have c1 := Q1.out.cell hlt
            have c0 := Q0.out.cell hlt
            have c4 := Q4.out.cell hlt
            simp only [pr_pr] at c4
            by_cases hq : 32 ≤ f i ∧ f i ≤ 126
            · have hpr : pr (f i) = f i := pr_in hq.1 hq.2
              have him : i < m := hlt
              have c2 := Q2.out.cell him
              simp only [hpr] at c1 c2 c4
              go_wp2_with fail
              refine (octet_yes _ hq.1 hq.2 _).mono ?_
              rintro e w' ⟨rfl, rfl⟩
              go_wp2_with fail
              refine (octet_yes _ hq.1 hq.2 _).mono ?_
              rintro e w' ⟨rfl, rfl⟩
              go_wp2_with fail
              go_round
              case rel => exact ⟨i + 1, by omega, by go_num⟩
              case measure => simp [intOf]; omega
            · have hpr : pr (f i) = 63 := pr_out hq
              have him : i < m := hlt
              have c2 := Q2.out.cell him
              simp only [hpr] at c1 c2 c4
              go_wp2_with fail
              refine (octet_yes _ (by omega) (by omega) _).mono ?_
              rintro e w' ⟨rfl, rfl⟩
              go_wp2_with fail
              refine (octet_no _ hq _).mono ?_
              rintro e w' ⟨rfl, rfl⟩
              go_wp2_with fail
              go_round
              case rel => exact ⟨i + 1, by omega, by go_num⟩
              case measure => simp [intOf]; omega
          · go_wp2_with fail
            go_ret
            exact ⟨rfl, HB.out⟩
      · go_wp2_with fail
        refine (zz_calls _ (len - m) (len - m) (fun j => f (m + j)) (fun j => hf _) (by omega) _ (octs_row (row_below (row_below HR0.out H1.out) H2.out) m (by omega))).mono ?_
        rintro e w3 ⟨rfl, hr3, hb3⟩
        have H3 := hide hb3
        have HR3 := hide hr3
        clear hb3 hr3
        go_wp2_with fail
        refine (zz_calls _ len len (fun j => pr (f j)) (fun j => ⟨by have := pr_lo (f j); omega, by have := pr_hi (f j); omega⟩) (by omega) _ (octs_row0 (row_below (row_below HR1.out H2.out) H3.out) (Nat.le_refl _))).mono ?_
        rintro e w4 ⟨rfl, hr4, hb4⟩
        have H4 := hide hb4
        have Q0 := hide (row_below (row_below (row_below (row_below HR0.out H1.out) H2.out) H3.out) hb4)
        have Q1 := hide (row_below (row_below (row_below HR1.out H2.out) H3.out) hb4)
        have Q2 := hide (row_below (row_below HR2.out H3.out) hb4)
        have Q3 := hide (row_below HR3.out hb4)
        have Q4 := hide hr4
        have HB : Hid (Below w'.heap.size w' w4) := by
          have s0 := H0.out.size
          have s1 := H1.out.size
          have s2 := H2.out.size
          have s3 := H3.out.size
          exact (((H0.out.trans (H1.out.mono s0)).trans (H2.out.mono (by omega))).trans (H3.out.mono (by omega))).trans (H4.out.mono (by omega))
        clear hb4 hr4 H0 H1 H2 H3 H4 HR0 HR1 HR2 HR3
        go_wp2_with fail
        go_loop [11] (fun u => ∃ i : Nat, i ≤ len ∧ u = .int .i64 i) (fun u => len - (intOf u).toNat)
        case atStart => exact ⟨0, Nat.zero_le _, rfl⟩
        case round =>
          obtain ⟨i, hi, rfl⟩ := hrel
          by_cases hlt : i < len
          · have c1 := Q1.out.cell hlt
            have c0 := Q0.out.cell hlt
            have c4 := Q4.out.cell hlt
            simp only [pr_pr] at c4
            by_cases hq : 32 ≤ f i ∧ f i ≤ 126
            · have hpr : pr (f i) = f i := pr_in hq.1 hq.2
              by_cases him : i < m
              · have c2 := Q2.out.cell him
                simp only [hpr] at c1 c2 c4
                go_wp2_with fail
                refine (octet_yes _ hq.1 hq.2 _).mono ?_
                rintro e w' ⟨rfl, rfl⟩
                go_wp2_with fail
                refine (octet_yes _ hq.1 hq.2 _).mono ?_
                rintro e w' ⟨rfl, rfl⟩
                go_wp2_with fail
                go_round
                case rel => exact ⟨i + 1, by omega, by go_num⟩
                case measure => simp [intOf]; omega
              · have c3 := Q3.out.cell (i := i - m) (by omega)
                have e3 : m + (i - m) = i := by omega
                simp only [e3, hpr] at c1 c3 c4
                clear e3
                go_wp2_with fail
                refine (octet_yes _ hq.1 hq.2 _).mono ?_
                rintro e w' ⟨rfl, rfl⟩
                go_wp2_with fail
                refine (octet_yes _ hq.1 hq.2 _).mono ?_
                rintro e w' ⟨rfl, rfl⟩
                go_wp2_with fail
                go_round
                case rel => exact ⟨i + 1, by omega, by go_num⟩
                case measure => simp [intOf]; omega
            · have hpr : pr (f i) = 63 := pr_out hq
              by_cases him : i < m
              · have c2 := Q2.out.cell him
                simp only [hpr] at c1 c2 c4
                go_wp2_with fail
                refine (octet_yes _ (by omega) (by omega) _).mono ?_
                rintro e w' ⟨rfl, rfl⟩
                go_wp2_with fail
                refine (octet_no _ hq _).mono ?_
                rintro e w' ⟨rfl, rfl⟩
                go_wp2_with fail
                go_round
                case rel => exact ⟨i + 1, by omega, by go_num⟩
                case measure => simp [intOf]; omega
              · have c3 := Q3.out.cell (i := i - m) (by omega)
                have e3 : m + (i - m) = i := by omega
                simp only [e3, hpr] at c1 c3 c4
                clear e3
                go_wp2_with fail
                refine (octet_yes _ (by omega) (by omega) _).mono ?_
                rintro e w' ⟨rfl, rfl⟩
                go_wp2_with fail
                refine (octet_no _ hq _).mono ?_
                rintro e w' ⟨rfl, rfl⟩
                go_wp2_with fail
                go_round
                case rel => exact ⟨i + 1, by omega, by go_num⟩
                case measure => simp [intOf]; omega
          · go_wp2_with fail
            go_ret
            exact ⟨rfl, HB.out⟩
    · go_enter Try.func3, Try.ntmps3
      go_wp2_with fail
      refine (bytes_calls _ len cap k (Nat.le_trans hlc hcm) _).mono ?_
      rintro e w' ⟨rfl, rfl⟩
      go_wp2_with fail
      all_goals (go_ret; exact ⟨rfl, Below.refl _ _⟩)
  · go_enter Try.func3, Try.ntmps3
    go_wp2_with fail
    refine (bytes_calls _ len cap k (Nat.le_trans hlc hcm) _).mono ?_
    rintro e w' ⟨rfl, rfl⟩
    go_wp2_with fail
    go_ret
    exact ⟨rfl, Below.refl _ _⟩

end Go.Proofs.Qxb6619365a

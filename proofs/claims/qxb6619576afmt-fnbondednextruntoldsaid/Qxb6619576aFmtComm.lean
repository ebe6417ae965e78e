/-
  Seat b6619576aF: the walk of (Miners).Commitment (20).
-/
import Derived.Test.Qxb6619576aFmtSmall
import Derived.Deep.CutBlock
namespace Go.Proofs.Qxb6619576aFmt
open Go.RowKit
set_option linter.unusedSimpArgs false
attribute [local go_sem] run_store_float

/-- n words from place o on. -/
def part (p : Nat → Nat) (o n : Nat) : List Nat := (List.range n).map (fun j => p (o + j))
theorem part_length (p : Nat → Nat) (o n : Nat) : (part p o n).length = n := by simp [part]
theorem part_snoc (p : Nat → Nat) (o n : Nat) : part p o (n + 1) = part p o n ++ [p (o + n)] := by simp [part, List.range_succ]
theorem part_above (p : Nat → Nat) (o n m : Nat) (h : ∀ j, j < n → m ≤ p (o + j) ∧ p (o + j) ≤ Fl.INF) : Fl.Above m (part p o n) := by
  intro c hc
  obtain ⟨j, hj, rfl⟩ := List.mem_map.1 hc
  exact h j (by simpa using hj)

set_option maxHeartbeats 1000000 in
theorem comm_keep (tol rise : Nat) (window every number : Int) (share g n : Nat) (p : Nat → Nat) (w : World) (ht : TolOk tol) (hr : RiseOk rise) (h1 : 1 ≤ window) (hwn : window ≤ n) (hn : n ≤ 8192) (h2 : 1 ≤ every)
    (hnum : 1 ≤ number) (hnum2 : number ≤ 4096) (hs : 0 < share) (hsi : share ≤ Fl.INF) (hrow : w.rowIs g 22 n (fun j => .float .f64 (p j))) (hp : ∀ j, j < n → 0 < p j ∧ p j ≤ Fl.INF)
    (hmod : ¬ (number - 1) % every = 0) :
    Calls Tryf.prog 20 #[.agg #[.float .f64 tol, .float .f64 rise, .int .i64 window, .int .i64 every], .int .i64 number, .float .f64 share, .slice (some ⟨g, 0, none⟩) n n] w fun e w' =>
      e = .returned (.tuple #[.float .f64 (p (n - 1)), .nilIface]) ∧ Below w.heap.size w w' := by
  have hos : FloatKind.f64.format.order share 0 = some .gt := o_gt hs hsi
  have hmod' : ((number - 1) % every == 0) = false := by simp [hmod]
  have hbel : ∀ M : Array Value, Below w.heap.size w ((w.alloc (.cells M 27)).alloc (.cells M 27)) := fun M => ((Below.refl _ _).alloc (Nat.le_refl _) _).alloc (by simp) _
  have HC : Hid (∀ (M : Array Value) (j : Nat), j < n → ((w.alloc (.cells M 27)).alloc (.cells M 27)).cell? ⟨g, j, none⟩ = some (.float .f64 (p j))) := fun M j hj => ((hbel M).cell (by exact hrow.lt)).trans (hrow.cell hj)
  have HB := hide hbel
  have HP := hide hp
  clear hrow hs hsi hmod hbel hp
  go_enter Tryf.func20, Tryf.ntmps20
  go_wp2_with fail
  refine (check_calls tol rise window every ht hr h1 h2 _).mono ?_
  rintro e w' ⟨rfl, rfl⟩
  go_wp2_with fail
  go_loop [13, 72] (fun u i => ∃ k : Nat, k ≤ (n - (n - 1)) ∧ i = .int .i64 k ∧ u = .float .f64 (Fl.sumW (part p (n - 1) k))) (fun _ i => (n - (n - 1)) - (intOf i).toNat)
  case atStart => exact ⟨0, Nat.zero_le _, rfl, rfl⟩
  case round =>
    obtain ⟨k, hk, rfl, rfl⟩ := hrel
    by_cases hlt : k < (n - (n - 1))
    · have hpk := HP.out ((n - 1) + k) (by omega)
      have hcell := HC.out #[.float .f64 tol, .float .f64 rise, .int .i64 window, .int .i64 every] ((n - 1) + k) (by omega)
      have hok : FloatKind.f64.format.order (p ((n - 1) + k)) 0 = some .gt := o_gt hpk.1 hpk.2
      have hsum := Fl.sum_le k (part p (n - 1) k) (part_length _ _ _) (part_above p (n - 1) k 0 (fun j hj => ⟨Nat.zero_le _, (HP.out ((n - 1) + j) (by omega)).2⟩))
      have hadd := fun (wx : World) => run_float_arith (P := Tryf.prog) wx .add 22 .f64 (Fl.sumW (part p (n - 1) k)) (p ((n - 1) + k)) _ (Fl.add_some hsum hpk.2).1
      have HS := hide (show Fl.sumW (part p (n - 1) (k + 1)) = Fl.addW (Fl.sumW (part p (n - 1) k)) (p ((n - 1) + k)) from by rw [part_snoc, Fl.sum_snoc])
      clear hsum hpk
      go_wp2_with fail
      go_round
      case rel => exact ⟨k + 1, by omega, by go_num, by rw [HS.out]⟩
      case measure => simp [intOf]; omega
    · have hkl : k = (n - (n - 1)) := by omega
      have hcell := HC.out #[.float .f64 tol, .float .f64 rise, .int .i64 window, .int .i64 every] (n - 1) (by omega)
      clear hkl
      go_wp2_with fail
      go_ret2
      exact ⟨rfl, HB.out _⟩

theorem riseOk_of {r : Nat} (h1 : Fl.ONE ≤ r) (h2 : r ≤ Fl.INF) : RiseOk r := by
  rcases Nat.lt_or_eq_of_le h1 with h | h
  · exact Or.inl (o_gt h h2)
  · right; rw [← h]; exact o_eq (Nat.le_of_lt Fl.ONE_lt)
theorem ofN_eq (n : Nat) : floatOfInt .f64 (n : Int) = Fl.ofN n := by
  unfold floatOfInt FloatKind.nearest FloatKind.encode Fl.ofN
  have h : decide ((n : Int) < 0) = false := decide_eq_false (by omega)
  rw [h, Int.natAbs_natCast]
  rfl

set_option maxHeartbeats 1000000 in
theorem comm_change (tol rise : Nat) (win : Nat) (every number : Int) (share g n : Nat) (p : Nat → Nat) (w : World) (ht : TolOk tol) (hr1 : Fl.ONE ≤ rise) (hr2 : rise ≤ Fl.INF) (h1 : 1 ≤ win) (hwn : win ≤ n) (hw4 : win ≤ 4096) (hn : n ≤ 8192) (h2 : 1 ≤ every)
    (hnum : 1 ≤ number) (hnum2 : number ≤ 4096) (hs : 0 < share) (hsi : share ≤ Fl.INF) (hrow : w.rowIs g 22 n (fun j => .float .f64 (p j))) (hp : ∀ j, j < n → 0 < p j ∧ p j ≤ Fl.INF)
    (hmod : (number - 1) % every = 0) :
    Calls Tryf.prog 20 #[.agg #[.float .f64 tol, .float .f64 rise, .int .i64 win, .int .i64 every], .int .i64 number, .float .f64 share, .slice (some ⟨g, 0, none⟩) n n] w fun e w' =>
      e = .returned (.tuple #[.float .f64 (Fl.commW rise share (part p (n - win) win) win), .nilIface]) ∧ Below w.heap.size w w' := by
  have hr := riseOk_of hr1 hr2
  have HRO := hide (And.intro hr1 hr2)
  have HSH := hide (And.intro hs hsi)
  clear hr1 hr2
  have hos : FloatKind.f64.format.order share 0 = some .gt := o_gt hs hsi
  have hmod' : ((number - 1) % every == 0) = true := by simp [hmod]
  have hbel : ∀ M : Array Value, Below w.heap.size w ((w.alloc (.cells M 27)).alloc (.cells M 27)) := fun M => ((Below.refl _ _).alloc (Nat.le_refl _) _).alloc (by simp) _
  have HC : Hid (∀ (M : Array Value) (j : Nat), j < n → ((w.alloc (.cells M 27)).alloc (.cells M 27)).cell? ⟨g, j, none⟩ = some (.float .f64 (p j))) := fun M j hj => ((hbel M).cell (by exact hrow.lt)).trans (hrow.cell hj)
  have HB := hide hbel
  have HP := hide hp
  clear hrow hs hsi hmod hbel hp
  go_enter Tryf.func20, Tryf.ntmps20
  go_wp2_with fail
  refine (check_calls tol rise win every ht hr (by omega) h2 _).mono ?_
  rintro e w' ⟨rfl, rfl⟩
  go_wp2_with fail
  go_loop [13, 72] (fun u i => ∃ k : Nat, k ≤ (n - (n - win)) ∧ i = .int .i64 k ∧ u = .float .f64 (Fl.sumW (part p (n - win) k))) (fun _ i => (n - (n - win)) - (intOf i).toNat)
  case atStart => exact ⟨0, Nat.zero_le _, rfl, rfl⟩
  case round =>
    obtain ⟨k, hk, rfl, rfl⟩ := hrel
    by_cases hlt : k < (n - (n - win))
    · have hpk := HP.out ((n - win) + k) (by omega)
      have hcell := HC.out #[.float .f64 tol, .float .f64 rise, .int .i64 win, .int .i64 every] ((n - win) + k) (by omega)
      have hok : FloatKind.f64.format.order (p ((n - win) + k)) 0 = some .gt := o_gt hpk.1 hpk.2
      have hsum := Fl.sum_le k (part p (n - win) k) (part_length _ _ _) (part_above p (n - win) k 0 (fun j hj => ⟨Nat.zero_le _, (HP.out ((n - win) + j) (by omega)).2⟩))
      have hadd := fun (wx : World) => run_float_arith (P := Tryf.prog) wx .add 22 .f64 (Fl.sumW (part p (n - win) k)) (p ((n - win) + k)) _ (Fl.add_some hsum hpk.2).1
      have HS := hide (show Fl.sumW (part p (n - win) (k + 1)) = Fl.addW (Fl.sumW (part p (n - win) k)) (p ((n - win) + k)) from by rw [part_snoc, Fl.sum_snoc])
      clear hsum hpk
      go_wp2_with fail
      go_round
      case rel => exact ⟨k + 1, by omega, by go_num, by rw [HS.out]⟩
      case measure => simp [intOf]; omega
    · have hkl : win = k := by omega
      subst hkl
      have hab := part_above p (n - win) win 1 (fun j hj => ⟨(HP.out ((n - win) + j) (by omega)).1, (HP.out ((n - win) + j) (by omega)).2⟩)
      obtain ⟨m1, m2, m3, -⟩ := Fl.mean_ok (part p (n - win) win) 1 win (part_length _ _ _) h1 hw4 (by omega) hab
      obtain ⟨q1, q2, -, -, -⟩ := Fl.comm_ok rise share (part p (n - win) win) 1 win (part_length _ _ _) h1 hw4 (by omega) hab HRO.out.1 HRO.out.2 HSH.out.1
      have hdiv := fun (wx : World) => run_float_arith (P := Tryf.prog) wx .quo 22 .f64 _ _ _ m1
      have hmul := fun (wx : World) => run_float_arith (P := Tryf.prog) wx .mul 22 .f64 _ _ _ q1
      have hmin := fun (wx : World) => run_min_f (P := Tryf.prog) wx #[22, 22] 22 share _ HSH.out.2 q2
      have hof := ofN_eq win
      have HF := hide (show Fl.commW rise share (part p (n - win) win) win = min share (Fl.mulW rise (Fl.divW (Fl.sumW (part p (n - win) win)) (Fl.ofN win))) from rfl)
      clear hab m1 m2 m3 q1 q2 hlt hk
      generalize Fl.sumW (part p (n - win) win) = S at *
      generalize Fl.ofN win = W at *
      generalize Fl.divW S W = M at *
      generalize Fl.mulW rise M = R at *
      go_wp2_with fail
      go_ret2
      exact ⟨by rw [HF.out]; rfl, HB.out _⟩

end Go.Proofs.Qxb6619576aFmt

/-
  Seat b6619590a: add (27) in every mode; ZZAdd (10); the makers (8, 9); the size test (6); cloneI32 (7).
-/
import Derived.Test.Qxb6619590aNil
import Derived.Test.Qxb6619590aSw1
namespace Go.Proofs.Qxb6619590a
open Go.RowKit
set_option linter.unusedSimpArgs false
set_option linter.unusedVariables false
attribute [local go_sem] eq_s0 eq_s1 eq_m0 eq_m1

theorem heldTo_met {met held : Nat → Bool} (hh : ∀ k, held k = true → met k = true) (k : Nat) (inn : Bool) (j : Nat) (h : heldTo held k inn j = true) : upd met k true j = true := by
  unfold heldTo at h
  by_cases e : j = k
  · subst e; exact upd_same _ _ _
  · rw [upd_other _ _ e] at h ⊢; exact hh j h
theorem upd_lt {met : Nat → Bool} {n : Nat} (hmn : ∀ k, met k = true → k < n) {k : Nat} (hk : k < n) (j : Nat) (h : upd met k true j = true) : j < n := by
  by_cases e : j = k
  · subst e; exact hk
  · rw [upd_other _ _ e] at h; exact hmn j h

theorem add_any {w : World} {Bs Bg lo n cnt : Nat} {met held : Nat → Bool} {m : Mode} (h : NS w Bs lo n met held cnt m) (hh : ∀ k, held k = true → met k = true) (hmn : ∀ k, met k = true → k < n) (hn : n ≤ 262144) {k : Nat} (hk : k < n) (inn : Bool) (hc : cnt ≤ 131072)
    {ga : Option Addr} {gc : Nat} (hg : w.cell? ⟨Bg, 0, none⟩ = some (.slice ga n gc)) (hBs : Bs < lo) (hBg : Bg < lo) (hne : Bg ≠ Bs) (hlo : lo ≤ w.heap.size) :
    Calls Try.prog 27 #[.pointer (some ⟨Bs, 0, none⟩), .pointer (some ⟨Bg, 0, none⟩), .int .i32 (k : Int), .bool inn] w fun e w' => e = .returned (.tuple #[]) ∧
      (∃ m' : Mode, m'.isMany = (m.isMany || decide (n < (cnt + 1) * 8)) ∧ m'.isFew = !m'.isMany ∧ NS w' Bs lo n (upd met k true) (heldTo held k inn) (cntTo met cnt k) m') ∧ Turn Bs lo w w' := by
  by_cases hs : n < (cnt + 1) * 8
  · cases m with
    | nil => exact (add_sw0 h hh hn hk inn hc hg hBs hBg hne hlo hs).mono fun e w' ⟨h1, m', h2, h3, h4⟩ => ⟨h1, ⟨m', by rw [h2]; simp [hs], by cases m' <;> simp_all [Mode.isMany, Mode.isFew], h3⟩, h4⟩
    | few B => exact (add_sw1 h hh hn hk inn hc hg hBs hBg hne hlo hs hmn).mono fun e w' ⟨h1, m', h2, h3, h4⟩ => ⟨h1, ⟨m', by rw [h2]; simp [hs], by cases m' <;> simp_all [Mode.isMany, Mode.isFew], h3⟩, h4⟩
    | many B => exact (add_many h hh hn hk inn hc hg hBs hBg hne hlo).mono fun e w' ⟨h1, h2, h3⟩ => ⟨h1, ⟨.many B, by simp [Mode.isMany], rfl, h2⟩, h3⟩
  · cases m with
    | nil => exact (add_nil h hh hn hk inn hg hBs hBg hne hlo (by omega)).mono fun e w' ⟨h1, h2, h3⟩ => ⟨h1, ⟨_, by simp [Mode.isMany, hs], rfl, h2⟩, h3⟩
    | few B => exact (add_few h hh hn hk inn hc hg hBs hBg hne hlo (by omega)).mono fun e w' ⟨h1, h2, h3⟩ => ⟨h1, ⟨_, by simp [Mode.isMany, hs], rfl, h2⟩, h3⟩
    | many B => exact (add_many h hh hn hk inn hc hg hBs hBg hne hlo).mono fun e w' ⟨h1, h2, h3⟩ => ⟨h1, ⟨.many B, by simp [Mode.isMany], rfl, h2⟩, h3⟩

theorem zzadd_calls {w : World} {Bs Bg lo n cnt : Nat} {met held : Nat → Bool} {m : Mode} (h : NS w Bs lo n met held cnt m) (hh : ∀ k, held k = true → met k = true) (hmn : ∀ k, met k = true → k < n) (hn : n ≤ 262144) {k : Nat} (hk : k < n) (inn : Bool) (hc : cnt ≤ 131072)
    {ga : Option Addr} {gc : Nat} (hg : w.cell? ⟨Bg, 0, none⟩ = some (.slice ga n gc)) (hBs : Bs < lo) (hBg : Bg < lo) (hne : Bg ≠ Bs) (hlo : lo ≤ w.heap.size) :
    Calls Try.prog 10 #[.pointer (some ⟨Bs, 0, none⟩), .pointer (some ⟨Bg, 0, none⟩), .int .i32 (k : Int), .bool inn] w fun e w' => e = .returned (.tuple #[]) ∧
      (∃ m' : Mode, m'.isMany = (m.isMany || decide (n < (cnt + 1) * 8)) ∧ m'.isFew = !m'.isMany ∧ NS w' Bs lo n (upd met k true) (heldTo held k inn) (cntTo met cnt k) m') ∧ Turn Bs lo w w' := by
  have HA := hide (add_any h hh hmn hn hk inn hc hg hBs hBg hne hlo)
  clear hg
  go_enter Try.func10, Try.ntmps10
  go_wp2_with fail
  refine HA.out.mono ?_
  rintro e w' ⟨rfl, hq⟩
  have HQ := hide hq
  clear hq
  go_wp2_with fail
  go_end0
  exact ⟨rfl, HQ.out⟩

theorem new_calls (w : World) : Calls Try.prog 9 #[] w fun e w' => e = .returned (.pointer (some ⟨w.heap.size, 0, none⟩)) ∧ w' = w.alloc (.cells #[.map none, .slice none 0 0, .int .i64 0] 61) := by
  go_enter Try.func9, Try.ntmps9
  go_wp2_with fail
  go_ret
  exact ⟨rfl, rfl⟩

theorem bytes_calls (a b : Option Addr) (n n' m m' : Nat) (hn : n ≤ maxLen) (hm : m ≤ maxLen) (w : World) :
    Calls Try.prog 6 #[.slice a n n', .slice b m m'] w fun e w' => e = .returned (.bool (decide (n + m ≤ 1048576))) ∧ w' = w := by
  have hn2 : n ≤ 9223372036854775807 := hn
  have hm2 : m ≤ 9223372036854775807 := hm
  by_cases h1 : n ≤ 1048576
  · by_cases h2 : m ≤ 1048576
    · by_cases h3 : n + m ≤ 1048576
      · rw [decide_eq_true h3]
        go_enter Try.func6, Try.ntmps6
        go_wp2_with fail
        go_ret
        exact ⟨rfl, rfl⟩
      · rw [decide_eq_false h3]
        go_enter Try.func6, Try.ntmps6
        go_wp2_with fail
        go_ret
        exact ⟨rfl, rfl⟩
    · rw [decide_eq_false (by omega)]
      go_enter Try.func6, Try.ntmps6
      go_wp2_with fail
      go_ret
      exact ⟨rfl, rfl⟩
  · rw [decide_eq_false (by omega)]
    go_enter Try.func6, Try.ntmps6
    go_wp2_with fail
    go_ret
    exact ⟨rfl, rfl⟩

theorem info21 : (Try.prog.info? 21).map (fun i => (i.zero, i.size, i.bytes)) = some (some (.int .i32 0), 1, 4) := by kernel_rfl

set_option maxHeartbeats 400000 in
theorem clone_some (x : Addr) (n cap : Nat) (f : Nat → Int) (hn : n ≤ 262144) (w : World) (hc : ∀ j, j < n → w.cell? (x.add j) = some (.int .i32 (f j))) :
    Calls Try.prog 7 #[.slice (some x) n cap] w fun e w' => (∃ ga, e = .returned (.slice ga n n)) ∧ Below w.heap.size w w' := by
  have hmk := fun (wx : World) => run_make_row' (P := Try.prog) 22 21 (.int .i32 0) 4 Try.underlying22 info21 rfl .i64 .i64 n (by omega) (by omega) wx
  have hne : ∀ wx : World, (binOp .eql 22 (.slice (some x) n cap) (.slice none 0 0)).run Try.prog wx = .ok (.bool false) wx := fun wx => by kernel_rfl
  go_enter Try.func7, Try.ntmps7
  go_wp2_with fail
  go_loopw [4] (fun i wr => ∃ k : Nat, k ≤ n ∧ i = .int .i64 k ∧ (∃ g : Nat → Int, wr.rowIs w.heap.size 21 n (fun j => .int .i32 (g j))) ∧ Below w.heap.size w wr)
    (fun i _ => n - (intOf i).toNat)
  case atStart => exact ⟨0, Nat.zero_le _, rfl, ⟨fun _ => 0, World.rowIs_made w _ n 21⟩, (Below.refl _ _).alloc (Nat.le_refl _) _⟩
  case round =>
    obtain ⟨k, hk, rfl, ⟨g, hrow⟩, hbel⟩ := hrel
    by_cases hlt : k < n
    · have hck := hc k hlt
      have hcell : wr.cell? (x.add k) = some (.int .i32 (f k)) := (hbel.cell (World.block_lt_of_cell? w _ hck)).trans hck
      have hold := hrow.cell hlt
      have hfro := hrow.frozen k
      have HR := hide hrow
      have HB := hide hbel
      clear hrow hbel hc hmk hne hck
      go_wp2_with fail
      go_roundw
      case rel =>
        exact ⟨k + 1, by omega, by go_num, ⟨fun j => if j = k then f k else g j, (HR.out.set k (.int .i32 (f k))).congr (fun j hj => by by_cases e : j = k <;> simp [e])⟩, HB.out.setCell (Nat.le_refl _) _⟩
      case measure => simp [intOf]; omega
    · clear hne hmk hc
      go_wp2_with fail
      go_ret
      exact ⟨⟨_, rfl⟩, hbel⟩

theorem clone_nil (w : World) : Calls Try.prog 7 #[.slice none 0 0] w fun e w' => (∃ ga, e = .returned (.slice ga 0 0)) ∧ Below w.heap.size w w' := by
  have hne : ∀ wx : World, (binOp .eql 22 (.slice none 0 0) (.slice none 0 0)).run Try.prog wx = .ok (.bool true) wx := fun wx => by kernel_rfl
  go_enter Try.func7, Try.ntmps7
  go_wp2_with fail
  go_ret
  exact ⟨⟨_, rfl⟩, Below.refl _ _⟩

theorem graph_calls (ga : Option Addr) (n c : Nat) (w : World) : Calls Try.prog 8 #[.slice ga n c, .int .i32 0, .slice none 0 0, .map none, .agg #[.slice none 0 0, .slice none 0 0], .agg #[.slice none 0 0, .slice none 0 0]] w fun e w' =>
    ∃ Bg, e = .returned (.pointer (some ⟨Bg, 0, none⟩)) ∧ w'.cell? ⟨Bg, 0, none⟩ = some (.slice ga n c) ∧ Below w.heap.size w w' ∧ Bg < w'.heap.size ∧ w.heap.size ≤ Bg := by
  go_enter Try.func8, Try.ntmps8
  go_wp2_with fail
  go_ret
  refine ⟨_, rfl, ?_, ?_, ?_, ?_⟩
  · rw [World.cell?_alloc_at _ _ _ _ (by simp)]; rfl
  · exact (((Below.refl _ _).alloc (Nat.le_refl _) _).alloc (by simp) _).alloc (by simp; omega) _
  · simp
  · omega

end Go.Proofs.Qxb6619590a

/-
  Seat b6619590a: add (27) at an empty set that becomes a map.
-/
import Derived.Test.Qxb6619590aFew
namespace Go.Proofs.Qxb6619590a
open Go.RowKit
set_option linter.unusedSimpArgs false
set_option linter.unusedVariables false
attribute [local go_sem] eq_s0 eq_s1 eq_m0 eq_m1

theorem few_none {w : World} {B : Nat} {met held : Nat → Bool} (h : Few w B (fun _ => false) (fun _ => false) 0) (h1 : ∀ k, met k = false) (h2 : ∀ k, held k = false) : Few w B met held 0 := by
  obtain ⟨D, a, b, c, d⟩ := h
  exact ⟨D, a, fun k => (b k).trans (h1 k).symm, fun k => by rw [h2 k]; exact c k, d⟩

set_option maxRecDepth 100000 in
set_option maxHeartbeats 2000000 in
theorem add_nil {w : World} {Bs Bg lo n cnt : Nat} {met held : Nat → Bool} (h : NS w Bs lo n met held cnt .nil) (hh : ∀ k, held k = true → met k = true) (hn : n ≤ 262144) {k : Nat} (hk : k < n) (inn : Bool)
    {ga : Option Addr} {gc : Nat} (hg : w.cell? ⟨Bg, 0, none⟩ = some (.slice ga n gc)) (hBs : Bs < lo) (hBg : Bg < lo) (hne : Bg ≠ Bs) (hlo : lo ≤ w.heap.size) (hstay : (cnt + 1) * 8 ≤ n) :
    Calls Try.prog 27 #[.pointer (some ⟨Bs, 0, none⟩), .pointer (some ⟨Bg, 0, none⟩), .int .i32 (k : Int), .bool inn] w fun e w' => e = .returned (.tuple #[]) ∧
      NS w' Bs lo n (upd met k true) (heldTo held k inn) (cntTo met cnt k) (.few w.heap.size) ∧ Turn Bs lo w w' := by
  have HN := hide h
  obtain ⟨hr, rfl, hm, hd⟩ := h
  have c0 := hr.cell (i := 0) (by decide)
  have c1 := hr.cell (i := 1) (by decide)
  have c2 := hr.cell (i := 2) (by decide)
  have f2 := hr.frozen 2
  have f0 := hr.frozen 0
  simp only [c3] at c0 c1 c2
  simp at c0 c1 c2
  have HR := hide hr
  have HM := hide (And.intro hm hd)
  have hmk := hm k
  have hltB := hr.lt
  have hmm := @run_makeMap Try.prog
  clear hr hm hd
  go_enter Try.func27, Try.ntmps27
  go_wp2_with fail
  go_quiet (fail)
  go_wp2_with fail
  refine (met_calls (show NS (w.drewN _) Bs lo n met held 0 .nil from HN.out) hh hn hk).mono ?_
  rintro e w' ⟨rfl, rfl⟩
  rw [hmk]
  go_upto_region 13 with fail
  have rT := fun (q : Nat) => (c3_set0 (c3_set2 (show (w.drewN q).rowIs Bs 61 3 _ from HR.out) (.int .i64 1)) (.map (some w.heap.size))).alloc (.map #[] 0)
  refine reg13 _ Bs w.heap.size 0 k met held inn _ _ _ _ _ _ _ _ _ _ _ _ _ _ _ _ _ _ _ _ _ _ _ _ _ _ _ _ _ _ _ _ _ _ _ _ _ _ _ _ _ _ _ _ _ _ _ _ _ _ _ _ _ _ _ _ _ _ _ _ _ _ _ _ _ _ _ _ _ _ _ _ _ _ _ _ _ _ _ _ _ _ _ _ _ _ _ _ _ _ _ _ _ _ _ _ _ _ _ _ _ _ _ _ _ _ _ _ _ _ _ _ _ _ _ _ _ _ _ _ _ _ _ _ _ _ _ _ _ _ _ _ (by kernel_rfl) ?hf (by omega) (by unfold maxLen; omega) ?c0 ?_
  case hf =>
    refine few_none ?_ HM.out.1 HM.out.2
    have g := few_made (((w.drewN nq).setCell ⟨Bs, 2, none⟩ (.int .i64 1)).setCell ⟨Bs, 0, none⟩ (.map (some w.heap.size)))
    have e : (((w.drewN nq).setCell ⟨Bs, 2, none⟩ (.int .i64 1)).setCell ⟨Bs, 0, none⟩ (.map (some w.heap.size))).heap.size = w.heap.size := by simp
    rw [e] at g
    exact g
  case c0 => exact (rT _).cell (i := 0) (by decide)
  intro u0 u1 u2 u3 u4 u5 u6 u7 u8 u9 u10 u11 u12 u13 w' hf' hg' hs'
  have hcn : cntTo met 0 k = 1 := by unfold cntTo; rw [hmk]; rfl
  have HF : Hid (NS w' Bs lo n (upd met k true) (heldTo held k inn) (cntTo met 0 k) (.few w.heap.size) ∧ Turn Bs lo w w') :=
    ⟨⟨by rw [hcn]; exact (rT _).of_block (hg'.block Bs (by simp; omega) (by intro e; injection e with e; omega)), hlo, hf'⟩,
      (((((Turn.refl Bs lo w).drewN _).setCell (Or.inl rfl) _).setCell (Or.inl rfl) _).alloc (by simp; omega) _).grown hg' (by simp; omega) (fun j e => by injection e with e; omega)⟩
  clear hf' hg' hs'
  go_wp2_with fail
  go_end0
  exact ⟨rfl, HF.out⟩

end Go.Proofs.Qxb6619590a

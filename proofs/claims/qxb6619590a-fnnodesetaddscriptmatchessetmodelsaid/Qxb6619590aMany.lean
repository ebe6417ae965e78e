/-
  Seat b6619590a: add (27) where the set lies in the array already.
-/
import Derived.Test.Qxb6619590aFew
namespace Go.Proofs.Qxb6619590a
open Go.RowKit
set_option linter.unusedSimpArgs false
set_option linter.unusedVariables false
attribute [local go_sem] eq_s0 eq_s1 eq_m0 eq_m1

theorem calls_gen {P : Program} {f : Nat} {args : Array Value} {w : World} {Q : Ending → World → Prop} (R : World → Prop) (h : R w) (hQ : ∀ wy, R wy → Calls P f args wy Q) : Calls P f args w Q := hQ w h

theorem st_upd (met held : Nat → Bool) (k : Nat) (inn : Bool) (j : Nat) : st (upd met k true) (heldTo held k inn) j = if j = k then (if held k || inn then 2 else 1) else st met held j := by
  unfold st heldTo
  by_cases e : j = k
  · subst e; rw [upd_same, upd_same]; simp
  · rw [upd_other _ _ e, upd_other _ _ e, if_neg e]

theorem many_done {W : World} {Bs B lo n cnt k : Nat} {met held : Nat → Bool} {inn : Bool} {s : Int} (hr : W.rowIs Bs 61 3 (c3 (.map none) (.slice (some ⟨B, 0, none⟩) n n) (.int .i64 cnt)))
    (hB : W.rowIs B 64 n (fun j => .int .u8 (st met held j))) (hlB : lo ≤ B) (hBs : Bs < lo) (hs : s = if held k || inn then 2 else 1) : NS (W.setCell ⟨B, k, none⟩ (.int .u8 s)) Bs lo n (upd met k true) (heldTo held k inn) cnt (.many B) :=
  ⟨hr.setOther (by show Bs ≠ B; omega) _, hlB, (hB.set k _).congr fun j hj => by
    rw [st_upd, hs]
    by_cases e : j = k
    · rw [if_pos e, if_pos e]
    · rw [if_neg e, if_neg e]⟩

theorem st_three (met held : Nat → Bool) (k : Nat) {s : Int} (h : s = if held k || false then (2 : Int) else 1) : st met held k = 0 ∧ s = 1 ∨ st met held k = 1 ∧ s = 1 ∨ st met held k = 2 ∧ s = 2 := by
  rw [h]
  unfold st
  cases held k <;> cases met k <;> simp

theorem cntTo_new {met : Nat → Bool} {cnt k : Nat} (h : met k = false) : cntTo met cnt k = cnt + 1 := by unfold cntTo; rw [h]; rfl
theorem cntTo_old {met : Nat → Bool} {cnt k : Nat} (h : met k = true) : cntTo met cnt k = cnt := by unfold cntTo; rw [h]; rfl

set_option maxRecDepth 100000 in
set_option maxHeartbeats 4000000 in
theorem add_many {w : World} {Bs Bg lo n cnt B : Nat} {met held : Nat → Bool} (h : NS w Bs lo n met held cnt (.many B)) (hh : ∀ k, held k = true → met k = true) (hn : n ≤ 262144) {k : Nat} (hk : k < n) (inn : Bool) (hc : cnt ≤ 131072)
    {ga : Option Addr} {gc : Nat} (hg : w.cell? ⟨Bg, 0, none⟩ = some (.slice ga n gc)) (hBs : Bs < lo) (hBg : Bg < lo) (hne : Bg ≠ Bs) (hlo : lo ≤ w.heap.size) :
    Calls Try.prog 27 #[.pointer (some ⟨Bs, 0, none⟩), .pointer (some ⟨Bg, 0, none⟩), .int .i32 (k : Int), .bool inn] w fun e w' => e = .returned (.tuple #[]) ∧
      NS w' Bs lo n (upd met k true) (heldTo held k inn) (cntTo met cnt k) (.many B) ∧ Turn Bs lo w w' := by
  have HN := hide h
  have c1 := h.1.cell (i := 1) (by decide)
  simp only [c3] at c1
  simp at c1
  clear h
  go_enter Try.func27, Try.ntmps27
  go_wp2_with fail
  go_quiet (fail)
  go_wp2_with fail
  clear c1
  refine calls_gen (fun wy => NS wy Bs lo n met held cnt (.many B) ∧ Turn Bs lo w wy) ?ns ?_
  case ns =>
    exact ⟨HN.out, (Turn.refl Bs lo w).drewN _⟩
  clear hg
  rintro wy ⟨hN, hT⟩
  refine (met_calls hN hh hn hk).mono ?_
  rintro e w' ⟨rfl, rfl⟩
  obtain ⟨hr, hlB, hrB⟩ := hN
  have d1 := hr.cell (i := 1) (by decide)
  have d2 := hr.cell (i := 2) (by decide)
  have g2 := hr.frozen 2
  simp only [c3] at d1 d2
  simp at d1 d2
  have gB := hrB.frozen k
  have dB := hrB.cell hk
  obtain ⟨s2, hs2⟩ : ∃ s2, s2 = if held k || false then (2 : Int) else 1 := ⟨_, rfl⟩
  have HS2 := hide hs2
  clear hs2
  have hBB : ¬ B = Bs := by omega
  have hBB2 : ¬ Bs = B := by omega
  have HR := hide (And.intro hr hrB)
  have HT := hide hT
  clear hr hrB hT
  cases hm : met k
  · cases inn
    · go_upto_region 17 with fail
      refine reg17 _ Bs B n k (st met held k) s2 false _ _ _ _ _ _ _ _ _ _ _ _ _ _ _ _ _ _ _ _ _ _ _ _ _ _ _ _ _ _ _ _ _ _ _ _ _ _ _ _ _ _ _ _ _ _ _ _ _ _ _ _ _ _ _ _ _ _ _ _ _ _ _ _ _ _ _ _ _ _ _ _ _ _ _ _ _ _ _ _ _ _ _ _ _ _ _ _ _ _ _ _ _ _ _ _ _ _ _ _ _ _ _ _ _ _ _ _ _ _ _ _ _ _ _ _ _ _ _ _ _ _ _ _ _ _ _ _ _ _ _ _ (by kernel_rfl) hk hn ?c1 ?cB ?fB (st_three met held k HS2.out) ?_
      case c1 => exact (c3_set2 HR.out.1 _).cell (i := 1) (by decide)
      case cB => exact (HR.out.2.setOther (by show B ≠ Bs; omega) _).cell hk
      case fB => exact (HR.out.2.setOther (by show B ≠ Bs; omega) _).frozen k
      intro u0 u1 u2 u3 u4 u5 u6 u7 u8 u9 u10 u11 u12 u13
      go_wp2_with fail
      go_end0
      exact ⟨rfl, by rw [cntTo_new hm]; exact ⟨many_done (c3_set2 HR.out.1 _).drew (HR.out.2.setOther (by show B ≠ Bs; omega) _).drew hlB hBs HS2.out, ((HT.out.setCell (Or.inl rfl) _).drew).setCell (Or.inr hlB) _⟩⟩
    · go_wp2_with fail
      go_end0
      exact ⟨rfl, by rw [cntTo_new hm]; exact ⟨many_done (c3_set2 HR.out.1 _) (HR.out.2.setOther (by show B ≠ Bs; omega) _) hlB hBs (by simp), (HT.out.setCell (Or.inl rfl) _).setCell (Or.inr hlB) _⟩⟩
  · cases inn
    · go_upto_region 17 with fail
      refine reg17 _ Bs B n k (st met held k) s2 false _ _ _ _ _ _ _ _ _ _ _ _ _ _ _ _ _ _ _ _ _ _ _ _ _ _ _ _ _ _ _ _ _ _ _ _ _ _ _ _ _ _ _ _ _ _ _ _ _ _ _ _ _ _ _ _ _ _ _ _ _ _ _ _ _ _ _ _ _ _ _ _ _ _ _ _ _ _ _ _ _ _ _ _ _ _ _ _ _ _ _ _ _ _ _ _ _ _ _ _ _ _ _ _ _ _ _ _ _ _ _ _ _ _ _ _ _ _ _ _ _ _ _ _ _ _ _ _ _ _ _ _ (by kernel_rfl) hk hn ?c1 ?cB ?fB (st_three met held k HS2.out) ?_
      case c1 => exact HR.out.1.cell (i := 1) (by decide)
      case cB => exact HR.out.2.cell hk
      case fB => exact HR.out.2.frozen k
      intro u0 u1 u2 u3 u4 u5 u6 u7 u8 u9 u10 u11 u12 u13
      go_wp2_with fail
      go_end0
      exact ⟨rfl, by rw [cntTo_old hm]; exact ⟨many_done HR.out.1.drew HR.out.2.drew hlB hBs HS2.out, (HT.out.drew).setCell (Or.inr hlB) _⟩⟩
    · go_wp2_with fail
      go_end0
      exact ⟨rfl, by rw [cntTo_old hm]; exact ⟨many_done HR.out.1 HR.out.2 hlB hBs (by simp), HT.out.setCell (Or.inr hlB) _⟩⟩

end Go.Proofs.Qxb6619590a

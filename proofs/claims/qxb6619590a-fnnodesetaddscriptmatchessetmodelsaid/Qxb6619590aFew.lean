/-
  Seat b6619590a: add (27) where the set stays a map.
-/
import Derived.Test.Qxb6619590aReg
namespace Go.Proofs.Qxb6619590a
open Go.RowKit
set_option linter.unusedSimpArgs false
set_option linter.unusedVariables false
attribute [local go_sem] eq_s0 eq_s1 eq_m0 eq_m1

theorem Few.set {w : World} {B cnt : Nat} {met held : Nat → Bool} (h : Few w B met held cnt) {a : Addr} (ne : B ≠ a.block) (u : Value) : Few (w.setCell a u) B met held cnt := h.of_block (Below.heap_setCell w a u B ne)
theorem c3_set0 {w : World} {Bs : Nat} {a b c : Value} (h : w.rowIs Bs 61 3 (c3 a b c)) (v : Value) : (w.setCell ⟨Bs, 0, none⟩ v).rowIs Bs 61 3 (c3 v b c) :=
  (h.set 0 v).congr fun i _ => by unfold c3; split <;> rfl
theorem c3_set1 {w : World} {Bs : Nat} {a b c : Value} (h : w.rowIs Bs 61 3 (c3 a b c)) (v : Value) : (w.setCell ⟨Bs, 1, none⟩ v).rowIs Bs 61 3 (c3 a v c) :=
  (h.set 1 v).congr fun i _ => by unfold c3; (by_cases e : i = 0); (subst e; rfl); (rw [if_neg e]); split <;> simp_all
theorem c3_set2 {w : World} {Bs : Nat} {a b c : Value} (h : w.rowIs Bs 61 3 (c3 a b c)) (v : Value) : (w.setCell ⟨Bs, 2, none⟩ v).rowIs Bs 61 3 (c3 a b v) :=
  (h.set 2 v).congr fun i hi => by
    have h3 : i = 0 ∨ i = 1 ∨ i = 2 := by omega
    rcases h3 with rfl | rfl | rfl <;> rfl

/-- held, after add. -/
def heldTo (held : Nat → Bool) (k : Nat) (inn : Bool) : Nat → Bool := upd held k (held k || inn)

/-- The count, after add. -/
def cntTo (met : Nat → Bool) (cnt k : Nat) : Nat := if met k then cnt else cnt + 1

set_option maxRecDepth 100000 in
set_option maxHeartbeats 2000000 in
theorem add_few {w : World} {Bs Bg lo n cnt B : Nat} {met held : Nat → Bool} (h : NS w Bs lo n met held cnt (.few B)) (hh : ∀ k, held k = true → met k = true) (hn : n ≤ 262144) {k : Nat} (hk : k < n) (inn : Bool) (hc : cnt ≤ 131072)
    {ga : Option Addr} {gc : Nat} (hg : w.cell? ⟨Bg, 0, none⟩ = some (.slice ga n gc)) (hBs : Bs < lo) (hBg : Bg < lo) (hne : Bg ≠ Bs) (hlo : lo ≤ w.heap.size) (hstay : (cnt + 1) * 8 ≤ n) :
    Calls Try.prog 27 #[.pointer (some ⟨Bs, 0, none⟩), .pointer (some ⟨Bg, 0, none⟩), .int .i32 (k : Int), .bool inn] w fun e w' => e = .returned (.tuple #[]) ∧
      NS w' Bs lo n (upd met k true) (heldTo held k inn) (cntTo met cnt k) (.few B) ∧ Turn Bs lo w w' := by
  have HN := hide h
  obtain ⟨hr, hlB, hf⟩ := h
  have c0 := hr.cell (i := 0) (by decide)
  have c1 := hr.cell (i := 1) (by decide)
  have c2 := hr.cell (i := 2) (by decide)
  have f2 := hr.frozen 2
  simp only [c3] at c0 c1 c2
  simp at c0 c1 c2
  have HR := hide (And.intro hr hf)
  clear hr hf
  go_enter Try.func27, Try.ntmps27
  go_wp2_with fail
  go_quiet (fail)
  go_wp2_with fail
  refine (met_calls (show NS (w.drewN _) Bs lo n met held cnt (.few B) from HN.out) hh hn hk).mono ?_
  rintro e w' ⟨rfl, rfl⟩
  cases hm : met k
  · go_upto_region 13 with fail
    refine reg13 _ Bs B cnt k met held inn _ _ _ _ _ _ _ _ _ _ _ _ _ _ _ _ _ _ _ _ _ _ _ _ _ _ _ _ _ _ _ _ _ _ _ _ _ _ _ _ _ _ _ _ _ _ _ _ _ _ _ _ _ _ _ _ _ _ _ _ _ _ _ _ _ _ _ _ _ _ _ _ _ _ _ _ _ _ _ _ _ _ _ _ _ _ _ _ _ _ _ _ _ _ _ _ _ _ _ _ _ _ _ _ _ _ _ _ _ _ _ _ _ _ _ _ _ _ _ _ _ _ _ _ _ _ _ _ _ _ _ _ (by kernel_rfl) ?hf (by omega) (by unfold maxLen; omega) ?c0 ?_
    case hf => exact Few.set (show Few (w.drewN _) B met held cnt from HR.out.2) (by show B ≠ Bs; omega) _
    case c0 => exact (c3_set2 (show (w.drewN _).rowIs Bs 61 3 _ from HR.out.1) _).cell (i := 0) (by decide)
    intro u0 u1 u2 u3 u4 u5 u6 u7 u8 u9 u10 u11 u12 u13 w' hf' hg' hs'
    have hcn : cntTo met cnt k = cnt + 1 := by unfold cntTo; rw [hm]; rfl
    have HF : Hid (NS w' Bs lo n (upd met k true) (heldTo held k inn) (cntTo met cnt k) (.few B) ∧ Turn Bs lo w w') :=
      ⟨⟨by rw [hcn]; exact (c3_set2 (show (w.drewN _).rowIs Bs 61 3 _ from HR.out.1) _).of_block (hg'.block Bs (by simp; omega) (by intro e; injection e with e; omega)), hlB, hf'⟩,
        (((Turn.refl Bs lo w).drewN _).setCell (Or.inl rfl) _).grown hg' (by simp; omega) (fun j e => by injection e with e; omega)⟩
    clear hf' hg' hs'
    go_wp2_with fail
    go_end0
    exact ⟨rfl, HF.out⟩
  · go_upto_region 13 with fail
    refine reg13 _ Bs B cnt k met held inn _ _ _ _ _ _ _ _ _ _ _ _ _ _ _ _ _ _ _ _ _ _ _ _ _ _ _ _ _ _ _ _ _ _ _ _ _ _ _ _ _ _ _ _ _ _ _ _ _ _ _ _ _ _ _ _ _ _ _ _ _ _ _ _ _ _ _ _ _ _ _ _ _ _ _ _ _ _ _ _ _ _ _ _ _ _ _ _ _ _ _ _ _ _ _ _ _ _ _ _ _ _ _ _ _ _ _ _ _ _ _ _ _ _ _ _ _ _ _ _ _ _ _ _ _ _ _ _ _ _ _ _ (by kernel_rfl) ?hf (by omega) (by unfold maxLen; omega) ?c0 ?_
    case hf => exact (show Few (w.drewN _) B met held cnt from HR.out.2)
    case c0 => exact HR.out.1.cell (i := 0) (by decide)
    intro u0 u1 u2 u3 u4 u5 u6 u7 u8 u9 u10 u11 u12 u13 w' hf' hg' hs'
    have hcn : cntTo met cnt k = cnt := by unfold cntTo; rw [hm]; rfl
    have HF : Hid (NS w' Bs lo n (upd met k true) (heldTo held k inn) (cntTo met cnt k) (.few B) ∧ Turn Bs lo w w') :=
      ⟨⟨by rw [hcn]; exact HR.out.1.of_block (hg'.block Bs (by simp; omega) (by intro e; injection e with e; omega)), hlB, hf'⟩,
        ((Turn.refl Bs lo w).drewN _).grown hg' (by simp; omega) (fun j e => by injection e with e; omega)⟩
    clear hf' hg' hs'
    go_wp2_with fail
    go_end0
    exact ⟨rfl, HF.out⟩

end Go.Proofs.Qxb6619590a

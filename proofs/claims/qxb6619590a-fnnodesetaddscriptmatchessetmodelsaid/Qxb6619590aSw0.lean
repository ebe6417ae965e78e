/-
  Seat b6619590a: add (27) at an empty set that becomes an array.
-/
import Derived.Test.Qxb6619590aMany
namespace Go.Proofs.Qxb6619590a
open Go.RowKit
set_option linter.unusedSimpArgs false
set_option linter.unusedVariables false
attribute [local go_sem] eq_s0 eq_s1 eq_m0 eq_m1

theorem info64 : (Try.prog.info? 64).map (fun i => (i.zero, i.size, i.bytes)) = some (some (.int .u8 0), 1, 1) := by kernel_rfl

set_option maxRecDepth 100000 in
set_option maxHeartbeats 4000000 in
theorem add_sw0 {w : World} {Bs Bg lo n cnt : Nat} {met held : Nat → Bool} (h : NS w Bs lo n met held cnt .nil) (hh : ∀ k, held k = true → met k = true) (hn : n ≤ 262144) {k : Nat} (hk : k < n) (inn : Bool) (hc : cnt ≤ 131072)
    {ga : Option Addr} {gc : Nat} (hg : w.cell? ⟨Bg, 0, none⟩ = some (.slice ga n gc)) (hBs : Bs < lo) (hBg : Bg < lo) (hne : Bg ≠ Bs) (hlo : lo ≤ w.heap.size) (hsw : n < (cnt + 1) * 8) :
    Calls Try.prog 27 #[.pointer (some ⟨Bs, 0, none⟩), .pointer (some ⟨Bg, 0, none⟩), .int .i32 (k : Int), .bool inn] w fun e w' => e = .returned (.tuple #[]) ∧
      ∃ m' : Mode, m'.isMany = true ∧ NS w' Bs lo n (upd met k true) (heldTo held k inn) (cntTo met cnt k) m' ∧ Turn Bs lo w w' := by
  have HN := hide h
  obtain ⟨hr, rfl, hm, hd⟩ := h
  have c0 := hr.cell (i := 0) (by decide)
  have c1 := hr.cell (i := 1) (by decide)
  have c2 := hr.cell (i := 2) (by decide)
  have f0 := hr.frozen 0
  have f1 := hr.frozen 1
  have f2 := hr.frozen 2
  simp only [c3] at c0 c1 c2
  simp at c0 c1 c2
  have HR := hide hr
  have HM := hide (And.intro hm hd)
  have hltB := hr.lt
  have hmk := fun (wx : World) => run_make_row' (P := Try.prog) 59 64 (.int .u8 0) 1 Try.underlying59 info64 rfl .i64 .i64 n (by omega) (by omega) wx
  have hrg := fun (wx : World) => run_range_nilMap (P := Try.prog) wx 58 21 4 Try.underlying58
  clear hr hm hd
  have hsw' : n < 8 := by omega
  go_enter Try.func27, Try.ntmps27
  go_wp2_with fail
  go_quiet (fail)
  obtain ⟨wq, hwq⟩ : ∃ wq, wq = w.drewN nq := ⟨_, rfl⟩
  have HQ : Hid (NS wq Bs lo n met held 0 .nil ∧ Turn Bs lo w wq ∧ wq.heap.size = w.heap.size) := by rw [hwq]; exact ⟨HN.out, (Turn.refl Bs lo w).drewN _, rfl⟩
  rw [← hwq]
  have hg' : wq.cell? ⟨Bg, 0, none⟩ = some (.slice ga n gc) := by rw [hwq]; exact hg
  clear hwq c0 c1 c2 f0 f1 f2 hltB
  have hr := HQ.out.1.1
  have c0 := hr.cell (i := 0) (by decide)
  have c1 := hr.cell (i := 1) (by decide)
  have f0 := hr.frozen 0
  have f1 := hr.frozen 1
  have hltB := hr.lt
  have hltG : Bg < wq.heap.size := by have := HQ.out.2.2; omega
  simp only [c3] at c0 c1
  simp at c0 c1
  clear hr
  go_wp2_with fail
  have hnx : ∀ ty, (Instr.next (.pointer (some ⟨wq.heap.size + 1, 0, none⟩)) false ty).run Try.prog (((wq.setCell ⟨Bs, 1, none⟩ (.slice (some ⟨wq.heap.size, 0, none⟩) n n)).alloc (.cells (madeCells #[.int .u8 0] n) 64)).alloc (.mapIter none 0 #[] 0)) = .ok (.tuple #[.bool false]) (((wq.setCell ⟨Bs, 1, none⟩ (.slice (some ⟨wq.heap.size, 0, none⟩) n n)).alloc (.cells (madeCells #[.int .u8 0] n) 64)).alloc (.mapIter none 0 #[] 0)) := fun ty => by
    simpa using run_next_nilMap (P := Try.prog) ((wq.setCell ⟨Bs, 1, none⟩ (.slice (some ⟨wq.heap.size, 0, none⟩) n n)).alloc (.cells (madeCells #[.int .u8 0] n) 64)) ty 0 0 #[]
  clear hmk hrg
  refine wp_loop_rounds 1 ?_
  rw [rounds_succ]
  go_wp2_with fail
  clear hnx
  refine calls_gen (fun wy => NS wy Bs lo n met held 0 (.many wq.heap.size) ∧ Turn Bs lo w wy) ?ns ?_
  case ns =>
    refine ⟨⟨((c3_set0 (c3_set1 HQ.out.1.1 _) _).alloc _).alloc _, by have := HQ.out.2.2; omega, World.rowIs.alloc ?_ _⟩, ((((HQ.out.2.1.setCell (Or.inl rfl) _).setCell (Or.inl rfl) _).alloc ?_ _).alloc ?_ _)⟩
    · have g := World.rowIs_made ((wq.setCell ⟨Bs, 1, none⟩ (.slice (some ⟨wq.heap.size, 0, none⟩) n n)).setCell ⟨Bs, 0, none⟩ (.map none)) (.int .u8 0) n 64
      have e : ((wq.setCell ⟨Bs, 1, none⟩ (.slice (some ⟨wq.heap.size, 0, none⟩) n n)).setCell ⟨Bs, 0, none⟩ (.map none)).heap.size = wq.heap.size := by simp
      rw [e] at g
      exact g.congr (fun j _ => by unfold st; rw [HM.out.1 j, HM.out.2 j]; rfl)
    · have := HQ.out.2.2; simp; omega
    · have := HQ.out.2.2; simp; omega
  clear hg
  generalize wq.heap.size = B at *
  rintro wy ⟨hN, hT⟩
  refine (met_calls hN hh hn hk).mono ?_
  rintro e w' ⟨rfl, rfl⟩
  obtain ⟨hr, hlB, hrB⟩ := hN
  have d1 := hr.cell (i := 1) (by decide)
  have d2 := hr.cell (i := 2) (by decide)
  have g2 := hr.frozen 2
  simp only [c3] at d1 d2
  simp at d1 d2
  have gB := hrB.frozen k
  have dB := hrB.cell hk
  obtain ⟨s2, hs2⟩ : ∃ s2, s2 = if held k || false then (2 : Int) else 1 := ⟨_, rfl⟩
  have HS2 := hide hs2
  clear hs2
  have hBB : ¬ B = Bs := by omega
  have hBB2 : ¬ Bs = B := by omega
  have HR := hide (And.intro hr hrB)
  have HT := hide hT
  clear hr hrB hT
  cases hm : met k
  · cases inn
    · go_upto_region 17 with fail
      refine reg17 _ Bs B n k (st met held k) s2 false _ _ _ _ _ _ _ _ _ _ _ _ _ _ _ _ _ _ _ _ _ _ _ _ _ _ _ _ _ _ _ _ _ _ _ _ _ _ _ _ _ _ _ _ _ _ _ _ _ _ _ _ _ _ _ _ _ _ _ _ _ _ _ _ _ _ _ _ _ _ _ _ _ _ _ _ _ _ _ _ _ _ _ _ _ _ _ _ _ _ _ _ _ _ _ _ _ _ _ _ _ _ _ _ _ _ _ _ _ _ _ _ _ _ _ _ _ _ _ _ _ _ _ _ _ _ _ _ _ _ _ _ (by kernel_rfl) hk hn ?c1 ?cB ?fB (st_three met held k HS2.out) ?_
      case c1 => exact (c3_set2 HR.out.1 _).cell (i := 1) (by decide)
      case cB => exact (HR.out.2.setOther (by show B ≠ Bs; omega) _).cell hk
      case fB => exact (HR.out.2.setOther (by show B ≠ Bs; omega) _).frozen k
      intro u0 u1 u2 u3 u4 u5 u6 u7 u8 u9 u10 u11 u12 u13
      go_wp2_with fail
      go_end0
      exact ⟨rfl, by rw [cntTo_new hm]; exact ⟨.many B, rfl, many_done (c3_set2 HR.out.1 _).drew (HR.out.2.setOther (by show B ≠ Bs; omega) _).drew hlB hBs HS2.out, ((HT.out.setCell (Or.inl rfl) _).drew).setCell (Or.inr hlB) _⟩⟩
    · go_wp2_with fail
      go_end0
      exact ⟨rfl, by rw [cntTo_new hm]; exact ⟨.many B, rfl, many_done (c3_set2 HR.out.1 _) (HR.out.2.setOther (by show B ≠ Bs; omega) _) hlB hBs (by simp), (HT.out.setCell (Or.inl rfl) _).setCell (Or.inr hlB) _⟩⟩
  · cases inn
    · go_upto_region 17 with fail
      refine reg17 _ Bs B n k (st met held k) s2 false _ _ _ _ _ _ _ _ _ _ _ _ _ _ _ _ _ _ _ _ _ _ _ _ _ _ _ _ _ _ _ _ _ _ _ _ _ _ _ _ _ _ _ _ _ _ _ _ _ _ _ _ _ _ _ _ _ _ _ _ _ _ _ _ _ _ _ _ _ _ _ _ _ _ _ _ _ _ _ _ _ _ _ _ _ _ _ _ _ _ _ _ _ _ _ _ _ _ _ _ _ _ _ _ _ _ _ _ _ _ _ _ _ _ _ _ _ _ _ _ _ _ _ _ _ _ _ _ _ _ _ _ (by kernel_rfl) hk hn ?c1 ?cB ?fB (st_three met held k HS2.out) ?_
      case c1 => exact HR.out.1.cell (i := 1) (by decide)
      case cB => exact HR.out.2.cell hk
      case fB => exact HR.out.2.frozen k
      intro u0 u1 u2 u3 u4 u5 u6 u7 u8 u9 u10 u11 u12 u13
      go_wp2_with fail
      go_end0
      exact ⟨rfl, by rw [cntTo_old hm]; exact ⟨.many B, rfl, many_done HR.out.1.drew HR.out.2.drew hlB hBs HS2.out, (HT.out.drew).setCell (Or.inr hlB) _⟩⟩
    · go_wp2_with fail
      go_end0
      exact ⟨rfl, by rw [cntTo_old hm]; exact ⟨.many B, rfl, many_done HR.out.1 HR.out.2 hlB hBs (by simp), HT.out.setCell (Or.inr hlB) _⟩⟩

end Go.Proofs.Qxb6619590a

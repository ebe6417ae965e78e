/-
  Seat b6619590a: add (27) at a map that becomes an array.
-/
import Derived.Test.Qxb6619590aSw0
namespace Go.Proofs.Qxb6619590a
open Go.RowKit Go.Maps
set_option linter.unusedSimpArgs false
set_option linter.unusedVariables false
attribute [local go_sem] eq_s0 eq_s1 eq_m0 eq_m1

theorem grown_set (w : World) (a : Addr) (u : Value) : w.grownBy (w.setCell a u) (some a.block) := ⟨rfl, rfl, rfl, by simp, fun i _ hne => Below.heap_setCell w a u i (fun e => hne (by rw [e]))⟩

theorem nk_left {left : Lit → Bool} {j k : Nat} : (left (nk j) && !(nk j).sameKey (nk k)) = if j = k then false else left (nk j) := by
  by_cases e : j = k
  · subst e; rw [nk_same, if_pos rfl]; simp
  · rw [if_neg e, Maps.sameKey_ne (fun h => e (nk_inj h))]; simp

/-- The step of a range over the map of a nodeSet. -/
theorem wpList_next_few (w : World) {ops : Array Oper} {rest : List Oper} {o : Oper} {a : Act} {Q : Exit → Act → World → Prop} (hg : o.guard = none) (it : Operand) (hop : o.op = Op.next it false) (b r n : Nat) (D : DataW Unit) (left : Lit → Bool) (cnt : Nat) (met held : Nat → Bool)
    (hD : (∀ k, Maps.has D (nk k) = met k) ∧ (∀ k, D.atKey (nk k) (.lit (.bool false)) = .lit (.bool (held k))) ∧ ∀ kl, Maps.has D kl = true → ∃ k : Nat, kl = nk k)
    (hit : a.eval it = .pointer (some ⟨r, 0, none⟩)) (h : w.ranges Try.prog 21 (plainElem Try.prog 4) b r n D left cnt) (hlh : ∀ kl, left kl = true → Maps.has D kl = true)
    (hDone : cnt = 0 → (∀ kl, left kl = false) → wpList Try.prog ops Q rest (a.put o.dst (.tuple #[.bool false])) w)
    (hMore : ∀ (k : Nat) (w' : World) (cnt' : Nat), met k = true → left (nk k) = true → w'.ranges Try.prog 21 (plainElem Try.prog 4) b r n D (fun z => left z && !z.sameKey (nk k)) cnt' → cnt' < cnt →
      w.grownBy w' (some r) → w'.heap.size = w.heap.size → (Instr.entry (.pointer (some ⟨r, 0, none⟩))).run Try.prog w' = .ok (.tuple #[.int .i32 (k : Int), .bool (held k)]) w' → wpList Try.prog ops Q rest (a.put o.dst (.tuple #[.bool true, .int .i32 (k : Int), .bool (held k)])) w') :
    wpList Try.prog ops Q (o :: rest) a w := by
  refine wpList_next_ranges w hg it hop 21 klaw (plainElem Try.prog 4) (Value.int .i32) Value.bool (fun key kl hkey => by obtain ⟨x, rfl, _⟩ := Maps.keyOf_int_inv Try.underlying21 hkey; exact ⟨x, rfl⟩) (fun v y hv => by obtain ⟨a, rfl, _⟩ := plainElem_bool_inv hv; exact ⟨a, rfl⟩) b r n D left cnt hit h hDone ?_
  intro x c kl y w' cnt' hkey hlx hv hat hrg hlt hgr hsz hen
  obtain ⟨k, rfl⟩ := hD.2.2 kl (hlh kl hlx)
  obtain ⟨x', ex, ek, _⟩ := Maps.keyOf_int_inv Try.underlying21 hkey
  injection ex with _ ex
  subst ex
  unfold nk at ek
  injection ek with _ ek
  subst ek
  have hm : met k = true := by rw [← hD.1 k]; exact hlh _ hlx
  obtain ⟨a', ea, rfl⟩ := plainElem_bool_inv hv
  injection ea with ea
  subst ea
  have hc : held k = c := by
    have := (hD.2.1 k).symm.trans (hat (.lit (.bool false)))
    simpa using this
  subst hc
  exact hMore k w' cnt' hm hlx hrg hlt hgr hsz hen

set_option maxRecDepth 100000 in
set_option maxHeartbeats 4000000 in
theorem add_sw1 {w : World} {Bs Bg lo n cnt B : Nat} {met held : Nat → Bool} (h : NS w Bs lo n met held cnt (.few B)) (hh : ∀ k, held k = true → met k = true) (hn : n ≤ 262144) {k : Nat} (hk : k < n) (inn : Bool) (hc : cnt ≤ 131072)
    {ga : Option Addr} {gc : Nat} (hg : w.cell? ⟨Bg, 0, none⟩ = some (.slice ga n gc)) (hBs : Bs < lo) (hBg : Bg < lo) (hne : Bg ≠ Bs) (hlo : lo ≤ w.heap.size) (hsw : n < (cnt + 1) * 8) (hmn : ∀ k, met k = true → k < n) :
    Calls Try.prog 27 #[.pointer (some ⟨Bs, 0, none⟩), .pointer (some ⟨Bg, 0, none⟩), .int .i32 (k : Int), .bool inn] w fun e w' => e = .returned (.tuple #[]) ∧
      ∃ m' : Mode, m'.isMany = true ∧ NS w' Bs lo n (upd met k true) (heldTo held k inn) (cntTo met cnt k) m' ∧ Turn Bs lo w w' := by
  have HN := hide h
  obtain ⟨hr, hlB, hf⟩ := h
  have c1 := hr.cell (i := 1) (by decide)
  have c2 := hr.cell (i := 2) (by decide)
  simp only [c3] at c1 c2
  simp at c1 c2
  have hmk := fun (wx : World) => run_make_row' (P := Try.prog) 59 64 (.int .u8 0) 1 Try.underlying59 info64 rfl .i64 .i64 n (by omega) (by omega) wx
  clear hr hf
  have HMN := hide hmn
  clear hmn
  go_enter Try.func27, Try.ntmps27
  go_wp2_with fail
  go_quiet (fail)
  obtain ⟨wq, hwq⟩ : ∃ wq, wq = w.drewN nq := ⟨_, rfl⟩
  have HQ : Hid (NS wq Bs lo n met held cnt (.few B) ∧ Turn Bs lo w wq ∧ wq.heap.size = w.heap.size) := by rw [hwq]; exact ⟨HN.out, (Turn.refl Bs lo w).drewN _, rfl⟩
  rw [← hwq]
  have hg' : wq.cell? ⟨Bg, 0, none⟩ = some (.slice ga n gc) := by rw [hwq]; exact hg
  clear hwq c1 c2
  have hr := HQ.out.1.1
  have c0 := hr.cell (i := 0) (by decide)
  have c1 := hr.cell (i := 1) (by decide)
  have f0 := hr.frozen 0
  have f1 := hr.frozen 1
  have hltB := hr.lt
  have hltG : Bg < wq.heap.size := by have := HQ.out.2.2; omega
  have hltM := HQ.out.1.2.2.lt
  obtain ⟨D, hown, hhas, hat, hsD, hall⟩ := HQ.out.1.2.2
  simp only [c3] at c0 c1
  simp at c0 c1
  have HO : Hid (((wq.setCell ⟨Bs, 1, none⟩ (.slice (some ⟨wq.heap.size, 0, none⟩) n n)).alloc (.cells (madeCells #[.int .u8 0] n) 64)).ownsMap Try.prog 21 (plainElem Try.prog 4) B cnt D) := (hown.setCell (by show B ≠ Bs; omega) _).alloc _
  have HD := hide (And.intro hhas (And.intro hat hall))
  have E1 : Hid (((wq.setCell ⟨Bs, 1, none⟩ (.slice (some ⟨wq.heap.size, 0, none⟩) n n)).alloc (.cells (madeCells #[.int .u8 0] n) 64)).heap.size = wq.heap.size + 1) := by show _ = _; simp
  have LO : Hid (lo ≤ wq.heap.size) := by have := HQ.out.2.2; show _ ≤ _; omega
  clear hr hown hhas hat hsD hall
  go_wp2_with (first
    | (at_range; refine wpList_range_own _ rfl _ 58 rfl 21 4 klaw Try.underlying58 _ B cnt D rfl HO.out ?_; intro w0 hrg0 hg0 hs0)
    | fail)
  rw [E1.out] at hrg0 hs0
  go_frame
  rw [E1.out]
  have hdec : decide ((n : Int) < ((cnt : Int) + 1) * 8) = true := by simp; omega
  rw [hdec]
  clear hdec
  have HRG := hide (And.intro hrg0 (And.intro hg0 hs0))
  clear hrg0 hg0 hs0 hmk c0 c1 f0 f1 hg'
  go_loopw [8] (fun _ wr => ∃ (left : Lit → Bool) (c : Nat), wr.ranges Try.prog 21 (plainElem Try.prog 4) B (wq.heap.size + 1) cnt D left c ∧ (∀ kl, left kl = true → Maps.has D kl = true) ∧
      wr.rowIs Bs 61 3 (c3 (.map (some B)) (.slice (some ⟨wq.heap.size, 0, none⟩) n n) (.int .i64 cnt)) ∧ wr.rowIs wq.heap.size 64 n (fun j => .int .u8 (if left (nk j) then 0 else st met held j)) ∧ Turn Bs lo w wr)
    (fun _ wr => wr.rangeLeft B (wq.heap.size + 1))
  case atStart =>
    obtain ⟨hrg0, hg0, hs0⟩ := HRG.out
    refine ⟨_, _, hrg0, fun _ h => h, ((c3_set1 HQ.out.1.1 _).alloc _).of_block (hg0.block _ (by rw [E1.out]; have := LO.out; omega) (by simp)), ?_, ((HQ.out.2.1.setCell (Or.inl rfl) _).alloc (by have := LO.out; simp; omega) _).grown hg0 (by rw [E1.out]; have := LO.out; omega) (fun j hj => by cases hj)⟩
    have g := World.rowIs_made (wq.setCell ⟨Bs, 1, none⟩ (.slice (some ⟨wq.heap.size, 0, none⟩) n n)) (.int .u8 0) n 64
    have e : (wq.setCell ⟨Bs, 1, none⟩ (.slice (some ⟨wq.heap.size, 0, none⟩) n n)).heap.size = wq.heap.size := by simp
    rw [e] at g
    refine (g.of_block (hg0.block _ (by rw [E1.out]; have := LO.out; omega) (by simp))).congr fun j _ => ?_
    rw [HD.out.1 j]
    unfold st
    cases h1 : met j
    · have h2 : held j = false := by cases h3 : held j; rfl; exact absurd (hh j h3) (by rw [h1]; simp)
      rw [h2]; rfl
    · rfl
  case round =>
    obtain ⟨left, c, hrg, hlh, hrs, hrB, hT⟩ := hrel
    have HRR := hide (And.intro hrg (And.intro hlh (And.intro hrs (And.intro hrB hT))))
    clear hrg hlh hrs hrB hT
    go_wp2_with (first
      | (at_next; refine wpList_next_few _ rfl _ rfl B (wq.heap.size + 1) cnt D left c met held HD.out rfl HRR.out.1 HRR.out.2.1 ?_ ?_)
      | fail)
    · intro _ hl0
      have HL0 := hide hl0
      clear hl0
      have f0 := HRR.out.2.2.1.frozen 0
      have c0 := HRR.out.2.2.1.cell (i := 0) (by decide)
      simp only [c3] at c0
      simp at c0
      go_wp2_with fail
      refine calls_gen (fun wy => NS wy Bs lo n met held cnt (.many wq.heap.size) ∧ Turn Bs lo w wy) ?ns ?_
      case ns =>
        exact ⟨⟨c3_set0 HRR.out.2.2.1 _, LO.out, (HRR.out.2.2.2.1.setOther (by show wq.heap.size ≠ Bs; omega) _).congr fun j _ => by rw [HL0.out (nk j)]; rfl⟩, HRR.out.2.2.2.2.setCell (Or.inl rfl) _⟩
      clear hg
      generalize wq.heap.size = B at *
      rintro wy ⟨hN, hT⟩
      refine (met_calls hN hh hn hk).mono ?_
      rintro e w' ⟨rfl, rfl⟩
      obtain ⟨hr, hlB, hrB⟩ := hN
      have d1 := hr.cell (i := 1) (by decide)
      have d2 := hr.cell (i := 2) (by decide)
      have g2 := hr.frozen 2
      simp only [c3] at d1 d2
      simp at d1 d2
      have gB := hrB.frozen k
      have dB := hrB.cell hk
      obtain ⟨s2, hs2⟩ : ∃ s2, s2 = if held k || false then (2 : Int) else 1 := ⟨_, rfl⟩
      have HS2 := hide hs2
      clear hs2
      have hBB : ¬ B = Bs := by omega
      have hBB2 : ¬ Bs = B := by omega
      have HR := hide (And.intro hr hrB)
      have HT := hide hT
      clear hr hrB hT
      cases hm : met k
      · cases inn
        · go_upto_region 17 with fail
          refine reg17 _ Bs B n k (st met held k) s2 false _ _ _ _ _ _ _ _ _ _ _ _ _ _ _ _ _ _ _ _ _ _ _ _ _ _ _ _ _ _ _ _ _ _ _ _ _ _ _ _ _ _ _ _ _ _ _ _ _ _ _ _ _ _ _ _ _ _ _ _ _ _ _ _ _ _ _ _ _ _ _ _ _ _ _ _ _ _ _ _ _ _ _ _ _ _ _ _ _ _ _ _ _ _ _ _ _ _ _ _ _ _ _ _ _ _ _ _ _ _ _ _ _ _ _ _ _ _ _ _ _ _ _ _ _ _ _ _ _ _ _ _ (by kernel_rfl) hk hn ?c1 ?cB ?fB (st_three met held k HS2.out) ?_
          case c1 => exact (c3_set2 HR.out.1 _).cell (i := 1) (by decide)
          case cB => exact (HR.out.2.setOther (by show B ≠ Bs; omega) _).cell hk
          case fB => exact (HR.out.2.setOther (by show B ≠ Bs; omega) _).frozen k
          intro u0 u1 u2 u3 u4 u5 u6 u7 u8 u9 u10 u11 u12 u13
          go_wp2_with fail
          go_end0
          exact ⟨rfl, by rw [cntTo_new hm]; exact ⟨.many B, rfl, many_done (c3_set2 HR.out.1 _).drew (HR.out.2.setOther (by show B ≠ Bs; omega) _).drew hlB hBs HS2.out, ((HT.out.setCell (Or.inl rfl) _).drew).setCell (Or.inr hlB) _⟩⟩
        · go_wp2_with fail
          go_end0
          exact ⟨rfl, by rw [cntTo_new hm]; exact ⟨.many B, rfl, many_done (c3_set2 HR.out.1 _) (HR.out.2.setOther (by show B ≠ Bs; omega) _) hlB hBs (by simp), (HT.out.setCell (Or.inl rfl) _).setCell (Or.inr hlB) _⟩⟩
      · cases inn
        · go_upto_region 17 with fail
          refine reg17 _ Bs B n k (st met held k) s2 false _ _ _ _ _ _ _ _ _ _ _ _ _ _ _ _ _ _ _ _ _ _ _ _ _ _ _ _ _ _ _ _ _ _ _ _ _ _ _ _ _ _ _ _ _ _ _ _ _ _ _ _ _ _ _ _ _ _ _ _ _ _ _ _ _ _ _ _ _ _ _ _ _ _ _ _ _ _ _ _ _ _ _ _ _ _ _ _ _ _ _ _ _ _ _ _ _ _ _ _ _ _ _ _ _ _ _ _ _ _ _ _ _ _ _ _ _ _ _ _ _ _ _ _ _ _ _ _ _ _ _ _ (by kernel_rfl) hk hn ?c1 ?cB ?fB (st_three met held k HS2.out) ?_
          case c1 => exact HR.out.1.cell (i := 1) (by decide)
          case cB => exact HR.out.2.cell hk
          case fB => exact HR.out.2.frozen k
          intro u0 u1 u2 u3 u4 u5 u6 u7 u8 u9 u10 u11 u12 u13
          go_wp2_with fail
          go_end0
          exact ⟨rfl, by rw [cntTo_old hm]; exact ⟨.many B, rfl, many_done HR.out.1.drew HR.out.2.drew hlB hBs HS2.out, (HT.out.drew).setCell (Or.inr hlB) _⟩⟩
        · go_wp2_with fail
          go_end0
          exact ⟨rfl, by rw [cntTo_old hm]; exact ⟨.many B, rfl, many_done HR.out.1 HR.out.2 hlB hBs (by simp), HT.out.setCell (Or.inr hlB) _⟩⟩
    · intro k1 w1 c' hm1 hlx hrg1 hlt hg1 hs1 hen
      have hk1 := HMN.out k1 hm1
      have hne1 : ¬ wq.heap.size = Bs := by omega
      have hne2 : ¬ Bs = wq.heap.size := by omega
      have rs := HRR.out.2.2.1.of_block (hg1.block Bs HRR.out.2.2.1.lt (by intro e; injection e with e; omega))
      have rb := HRR.out.2.2.2.1.of_block (hg1.block wq.heap.size HRR.out.2.2.2.1.lt (by intro e; injection e with e; omega))
      have T1 := HRR.out.2.2.2.2.grown hg1 (by have := HRR.out.2.2.2.2.size; have := HQ.out.2.2; have := LO.out; omega) (fun j hj => by injection hj with hj; have := LO.out; omega)
      have d1 := rs.cell (i := 1) (by decide)
      simp only [c3] at d1
      simp at d1
      have dB := rb.cell hk1
      have gB := rb.frozen k1
      have HS := hide (And.intro rs (And.intro rb (And.intro T1 (And.intro hrg1 hlt))))
      have LX := hide hlx
      clear rs rb T1 hrg1 hlt hg1 hs1 hlx
      generalize hvv : (if left (nk k1) = true then 0 else st met held k1) = vv at dB
      clear hvv
      cases hd1 : held k1
      · rw [hd1] at hen
        go_wp2_with fail
        go_roundw
        case rel =>
          refine ⟨_, c', HS.out.2.2.2.1.kept (grown_set w1 ⟨wq.heap.size, k1, none⟩ (.int .u8 1)) (by intro e; injection e with e; have e2 : B = wq.heap.size := e; omega) (by intro e; injection e with e; have e2 : wq.heap.size + 1 = wq.heap.size := e; omega), fun kl h => HRR.out.2.1 kl (by cases h2 : left kl <;> simp [h2] at h ⊢), HS.out.1.setOther (by show Bs ≠ wq.heap.size; omega) _, (HS.out.2.1.set k1 _).congr fun j hj => ?_, HS.out.2.2.1.setCell (Or.inr LO.out) _⟩
          rw [nk_left]
          by_cases e : j = k1
          · rw [if_pos e, if_pos e, e]; simp [st, hd1, hm1]
          · rw [if_neg e, if_neg e]
        case measure =>
          have g := HS.out.2.2.2.1.kept (grown_set w1 ⟨wq.heap.size, k1, none⟩ (.int .u8 1)) (by intro e; injection e with e; have e2 : B = wq.heap.size := e; omega) (by intro e; injection e with e; have e2 : wq.heap.size + 1 = wq.heap.size := e; omega)
          rw [g.left_eq, HRR.out.1.left_eq]; exact HS.out.2.2.2.2
      · rw [hd1] at hen
        go_wp2_with fail
        have G2 := hide ((HS.out.2.2.2.1.kept (grown_set w1 ⟨wq.heap.size, k1, none⟩ (.int .u8 1)) (by intro e; injection e with e; have e2 : B = wq.heap.size := e; omega) (by intro e; injection e with e; have e2 : wq.heap.size + 1 = wq.heap.size := e; omega)).kept (grown_set _ ⟨wq.heap.size, k1, none⟩ (.int .u8 2)) (by intro e; injection e with e; have e2 : B = wq.heap.size := e; omega) (by intro e; injection e with e; have e2 : wq.heap.size + 1 = wq.heap.size := e; omega))
        go_roundw
        case rel =>
          refine ⟨_, c', G2.out, fun kl h => HRR.out.2.1 kl (by cases h2 : left kl <;> simp [h2] at h ⊢), (HS.out.1.setOther (by show Bs ≠ wq.heap.size; omega) _).setOther (by show Bs ≠ wq.heap.size; omega) _, ((HS.out.2.1.set k1 _).set k1 _).congr fun j hj => ?_, (HS.out.2.2.1.setCell (Or.inr LO.out) _).setCell (Or.inr LO.out) _⟩
          rw [nk_left]
          by_cases e : j = k1
          · rw [if_pos e, if_pos e, e]; simp [st, hd1]
          · rw [if_neg e, if_neg e, if_neg e]
        case measure => rw [G2.out.left_eq, HRR.out.1.left_eq]; exact HS.out.2.2.2.2
end Go.Proofs.Qxb6619590a

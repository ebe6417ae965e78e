/-
  Seat b6619590a: the walk of the law FnNodeSetAddScriptMatchesSetModel (3).
-/
import Derived.Test.Qxb6619590aLoop2
import Derived.Test.Qxb6619590aLoop3
import Derived.Test.Qxb6619590aLoop4
import Derived.Test.Qxb6619590aLoop5
namespace Go.Proofs.Qxb6619590a
open Go.RowKit
set_option linter.unusedSimpArgs false
set_option linter.unusedVariables false
attribute [local go_sem] eq_s0 eq_s1 eq_m0 eq_m1

theorem info4 : (Try.prog.info? 4).map (fun i => (i.zero, i.size, i.bytes)) = some (some (.bool false), 1, 1) := by kernel_rfl

set_option maxRecDepth 100000 in
set_option maxHeartbeats 8000000 in
theorem law_main (a0 : Option Addr) (n n' : Nat) (a1 : Option Addr) (m m' : Nat) (ks : Nat → Int) (ins : Nat → Bool) (w : World) (hn : n ≤ 262144) (hm : m ≤ 131072) (hb : 4 * n + 8 * m ≤ 1048576)
    (hops : 0 < m → ∃ x, a1 = some x ∧ ∀ j, j < m → w.cell? (x.add (j * 2)) = some (.int .i32 (ks j)) ∧ w.cell? (x.add (j * 2 + 1)) = some (.bool (ins j)))
    (hk32 : ∀ j, j < m → ks j ≤ 2147483647)
    (hcl : Calls Try.prog 7 #[.slice a0 n n'] w fun e w' => (∃ ga, e = .returned (.slice ga n n)) ∧ Below w.heap.size w w') :
    Calls Try.prog 3 #[.slice a0 n n', .slice a1 m m'] w fun e w' => e = .returned (.bool true) ∧ Below w.heap.size w w' := by
  have HB := hide (bytes_calls a0 a1 n n' m m' (by unfold maxLen; omega) (by unfold maxLen; omega) w)
  have HO := hide hops
  have HC := hide hcl
  have HK := hide hk32
  clear hops hcl hk32
  have hnm : n + m ≤ 1048576 := by omega
  go_enter Try.func3, Try.ntmps3
  go_wp2_with fail
  refine HB.out.mono ?_
  rintro e w' ⟨rfl, rfl⟩
  rw [decide_eq_true hnm]
  clear HB
  go_wp2_with fail
  go_loop [6] (fun i => ∃ k : Nat, k ≤ m ∧ i = .int .i64 k ∧ ∀ j, j < k → 0 ≤ ks j ∧ ks j < n) (fun i => m - (intOf i).toNat)
  case atStart => exact ⟨0, Nat.zero_le _, rfl, fun j hj => absurd hj (by omega)⟩
  case round =>
    obtain ⟨k, hk, rfl, hpos⟩ := hrel
    have HPOS := hide hpos
    clear hpos
    by_cases hlt : k < m
    · obtain ⟨x, rfl, hc⟩ := HO.out (by omega)
      have hcell := (hc k hlt).1
      have hkm := HK.out k hlt
      clear hc
      generalize hks : ks k = kk at *
      have HKS := hide hks
      clear hks
      by_cases h0 : 0 ≤ kk
      · by_cases h1 : kk < n
        · go_wp2_with fail
          go_round
          case rel =>
            refine ⟨k + 1, by omega, by go_num, fun j hj => ?_⟩
            by_cases e : j = k
            · rw [e, HKS.out]; exact ⟨h0, h1⟩
            · exact HPOS.out j (by omega)
          case measure => simp [intOf]; omega
        · go_wp2_with fail
          go_ret
          exact ⟨rfl, Below.refl _ _⟩
      · go_wp2_with fail
        go_ret
        exact ⟨rfl, Below.refl _ _⟩
    · have hall : ∀ j, j < m → 0 ≤ ks j ∧ ks j < n := fun j hj => HPOS.out j (by omega)
      have HO2 : Hid (0 < m → ∃ x, a1 = some x ∧ ∀ j, j < m → w'.cell? (x.add (j * 2)) = some (.int .i32 ((ks j).toNat : Int)) ∧ w'.cell? (x.add (j * 2 + 1)) = some (.bool (ins j)) ∧ (ks j).toNat < n) := fun h => by
        obtain ⟨x, h1, h2⟩ := HO.out h
        exact ⟨x, h1, fun j hj => ⟨by rw [(h2 j hj).1]; congr 2; have := hall j hj; omega, (h2 j hj).2, by have := hall j hj; omega⟩⟩
      obtain rfl : k = m := by omega
      clear HO HPOS hall hlt hk
      go_wp2_with fail
      refine HC.out.mono ?_
      rintro e w1 ⟨⟨ga, rfl⟩, hb1⟩
      have HB1 := hide hb1
      clear hb1 HC
      go_wp2_with fail
      refine (graph_calls ga n n w1).mono ?_
      rintro e w2 ⟨Bg, rfl, hg, hb2, hlg, hgb⟩
      have HG := hide (And.intro hg (And.intro hb2 hlg))
      have HGB : Hid (w'.heap.size ≤ Bg) := Nat.le_trans HB1.out.size hgb
      clear hg hb2 hlg hgb
      go_wp2_with fail
      refine (new_calls w2).mono ?_
      rintro e w3 ⟨rfl, rfl⟩
      have hmk := fun (wx : World) => run_make_row' (P := Try.prog) 33 4 (.bool false) 1 Try.underlying33 info4 rfl .i64 .i64 n (by omega) (by omega) wx
      go_wp2_with fail
      clear hmk
      have HW2 : Hid (w'.heap.size ≤ w2.heap.size ∧ w'.heap.size ≤ Bg ∧ Bg < w2.heap.size ∧ Below w'.heap.size w' w2) := by
        have s1 := HB1.out.size
        have bb := HB1.out.trans (HG.out.2.1.mono s1)
        exact ⟨bb.size, HGB.out, HG.out.2.2, bb⟩
      have e1 : ∀ o : Obj, (w2.alloc o).heap.size = w2.heap.size + 1 := fun o => by simp
      refine loop2 w' _ w2.heap.size (w2.heap.size + 1) (w2.heap.size + 1 + 1) Bg (w2.heap.size + 1 + 1 + 1) n k m' n ga a1 (fun j => (ks j).toNat) ins _ _ _ _ _ _ _ _ _ _ _ _ _ _ _ _ _ _ _ _ _ _ _ _ _ _ _ _ _ _ _ _ _ _ _ _ _ _ _ _ _ _ _ _ _ _ _ _ _ _ _ _ _ _ _ _ _ _ _ _ _ _ _ _ _ _ _ _ _ _ _ _ _ _ _ _ _ _ _ _ _ _ _ _ _ _ _ _ _ _ _ _ _ _ _ _ _ _ _ _ _ _ _ _ _ _ _ _ _ _ _ _ _ _ _ _ _ _ _ _ _ _ _ _ _ _ _ _ _ _ _ _ _ _ _ _ _ _ _ _ _ _ _ _ _ _ _ _ _ _ _ _ _ _ _ _ _ _ _ _ _ _ _ _ _ _ _ _ _ _ _ _ _ _ _ _ _ _ _ _ _ _ _ _ _ _ _ _ _ _ _ _ _ _ _ _ _ _ _ _ _ _ _ _ _ _ _ _ _ _ _ _ _ _ _ _ _ _ _ _ _ _ _ _ _ _ _ _ _ _ _ _ _ _ _ _ _ _ _ _ _ _ _ _ (by kernel_rfl) hn hm HO2.out ?hw ?h0 ?_
      case hw =>
        obtain ⟨g1, g2, g3, g4⟩ := HW2.out
        omega
      case h0 =>
        obtain ⟨g1, g2, g3, g4⟩ := HW2.out
        refine ⟨Nat.le_refl _, Nat.le_refl _, fun _ h => h, fun _ h => absurd h (by simp), ⟨((c3_new w2 _ _ _).alloc _).alloc _, rfl, fun _ => rfl, fun _ => rfl⟩, ?_, ?_, ?_, ((g4.alloc g1 _).alloc (by simp; omega) _).alloc (by simp; omega) _, by simp, fun _ => rfl, fun h => by omega⟩
        · have g := World.rowIs_made (w2.alloc (.cells #[.map none, .slice none 0 0, .int .i64 0] 61)) (.bool false) n 4
          rw [e1] at g
          exact g.alloc _
        · have g := World.rowIs_made ((w2.alloc (.cells #[.map none, .slice none 0 0, .int .i64 0] 61)).alloc (.cells (madeCells #[.bool false] n) 4)) (.bool false) n 4
          have e2 : ((w2.alloc (.cells #[.map none, .slice none 0 0, .int .i64 0] 61)).alloc (.cells (madeCells #[.bool false] n) 4)).heap.size = w2.heap.size + 1 + 1 := by simp
          rw [e2] at g
          exact g
        · rw [World.cell?_of_block (Below.heap_alloc _ _ Bg (by simp; omega)), World.cell?_of_block (Below.heap_alloc _ _ Bg (by simp; omega)), World.cell?_of_block (Below.heap_alloc _ _ Bg g3)]
          exact HG.out.1
      clear e1 HW2 HG HB1
      generalize w2.heap.size = Bs at *
      intro u4 u14 u77 u78 u79 u80 u81 u82 u83 u84 u85 u86 u87 u88 u89 u90 u91 u92 u93 u94 u95 u96 u97 u98 u99 u100 u101 u102 u103 u104 u105 u106 u107 u108 u109 u110 u111 u112 u113 u114 u115 u116 u117 u118 u119 u120 u121 u122 u123 u124 u125 u126 u127 u128 u129 u130 u131 u132 u133 u134 u135 wr cnt bef met held md hL
      have HL := hide hL
      have hc1 := hL.ct
      have hc2 := hL.bc
      clear hL
      by_cases hk0 : 0 < k
      · by_cases hsw : n < (bef + 1) * 8
        · have hmode := (HL.out.mode hk0)
          rw [decide_eq_true hsw] at hmode
          cases md with
          | nil => cases hmode.1
          | few B => cases hmode.1
          | many B =>
            clear hmode
            go_wp2_with fail
            refine (manynil_calls HL.out.ns).mono ?_
            rintro e w' ⟨rfl, rfl⟩
            go_wp2_with fail
            refine (fewnil_calls HL.out.ns).mono ?_
            rintro e w' ⟨rfl, rfl⟩
            go_wp2_with fail
            refine (manylen_calls HL.out.ns).mono ?_
            rintro e w' ⟨rfl, rfl⟩
            go_wp2_with fail
            refine loop3 _ Bs (Bs + 1) (Bs + 1 + 1) (Bs + 1 + 1 + 1) n cnt met held B _ _ _ _ _ _ _ _ _ _ _ _ _ _ _ _ _ _ _ _ _ _ _ _ _ _ _ _ _ _ _ _ _ _ _ _ _ _ _ _ _ _ _ _ _ _ _ _ _ _ _ _ _ _ _ _ _ _ _ _ _ _ _ _ _ _ _ _ _ _ _ _ _ _ _ _ _ _ _ _ _ _ _ _ _ _ _ _ _ _ _ _ _ _ _ _ _ _ _ _ _ _ _ _ _ _ _ _ _ _ _ _ _ _ _ _ _ _ _ _ _ _ _ _ _ _ _ _ _ _ _ _ _ _ _ _ _ _ _ _ _ _ _ _ _ _ _ _ _ _ _ _ _ _ _ _ _ _ _ _ _ _ _ _ _ _ _ _ _ _ _ _ _ _ _ _ _ _ _ _ _ _ _ _ _ _ _ _ _ _ _ _ _ _ _ _ _ _ _ _ _ _ _ _ _ _ _ _ _ _ _ _ _ _ _ _ _ _ _ _ _ _ _ _ _ _ _ _ _ _ _ _ _ _ _ _ _ _ _ _ _ _ _ _ _ _ _ _ (by kernel_rfl) HL.out.ns HL.out.hh hn HL.out.rm HL.out.rh ?_
            intro x4 x16 x17 x160 x161 x162 x163 x164 x165 x166 x167 x168 x169 x170 x171 x172 x173 x174 x175 x176 x177
            go_wp2_with fail
            refine loop5 _ Bs (Bs + 1) (Bs + 1 + 1) (Bs + 1 + 1 + 1) n cnt met held (.many B) _ _ _ _ _ _ _ _ _ _ _ _ _ _ _ _ _ _ _ _ _ _ _ _ _ _ _ _ _ _ _ _ _ _ _ _ _ _ _ _ _ _ _ _ _ _ _ _ _ _ _ _ _ _ _ _ _ _ _ _ _ _ _ _ _ _ _ _ _ _ _ _ _ _ _ _ _ _ _ _ _ _ _ _ _ _ _ _ _ _ _ _ _ _ _ _ _ _ _ _ _ _ _ _ _ _ _ _ _ _ _ _ _ _ _ _ _ _ _ _ _ _ _ _ _ _ _ _ _ _ _ _ _ _ _ _ _ _ _ _ _ _ _ _ _ _ _ _ _ _ _ _ _ _ _ _ _ _ _ _ _ _ _ _ _ _ _ _ _ _ _ _ _ _ _ _ _ _ _ _ _ _ _ _ _ _ _ _ _ _ _ _ _ _ _ _ _ _ _ _ _ _ _ _ _ _ _ _ _ _ _ _ _ _ _ _ _ _ _ _ _ _ _ _ _ _ _ _ _ _ _ _ _ _ _ _ _ _ _ _ _ _ _ _ _ _ _ _ (by kernel_rfl) HL.out.ns HL.out.hh hn HL.out.rm HL.out.rh ?_
            intro y4 y21 y222 y223 y224 y225 y226 y227 y228 y229 y230 y231 y232 y233 y234 y235 y236 y237 y238 y239 y240 y241 y242 y243 y244 y245 y246 q
            go_wp2_with fail
            refine (zzn_calls (show NS (w'.drewN q) Bs (Bs + 1 + 1 + 1) n met held cnt (.many B) from HL.out.ns)).mono ?_
            rintro e w' ⟨rfl, rfl⟩
            go_wp2_with fail
            go_ret
            exact ⟨rfl, below_drewN HL.out.bel _⟩
        · have hmode := (HL.out.mode hk0)
          rw [decide_eq_false hsw] at hmode
          cases md with
          | nil => cases hmode.2
          | many B => cases hmode.1
          | few B =>
            clear hmode
            go_wp2_with fail
            refine (manynil_calls HL.out.ns).mono ?_
            rintro e w' ⟨rfl, rfl⟩
            go_wp2_with fail
            refine (fewnil_calls HL.out.ns).mono ?_
            rintro e w' ⟨rfl, rfl⟩
            go_wp2_with fail
            refine (fewlen_calls HL.out.ns).mono ?_
            rintro e w' ⟨rfl, rfl⟩
            go_wp2_with fail
            refine loop4 _ Bs (Bs + 1) (Bs + 1 + 1) (Bs + 1 + 1 + 1) n cnt met held B _ _ _ _ _ _ _ _ _ _ _ _ _ _ _ _ _ _ _ _ _ _ _ _ _ _ _ _ _ _ _ _ _ _ _ _ _ _ _ _ _ _ _ _ _ _ _ _ _ _ _ _ _ _ _ _ _ _ _ _ _ _ _ _ _ _ _ _ _ _ _ _ _ _ _ _ _ _ _ _ _ _ _ _ _ _ _ _ _ _ _ _ _ _ _ _ _ _ _ _ _ _ _ _ _ _ _ _ _ _ _ _ _ _ _ _ _ _ _ _ _ _ _ _ _ _ _ _ _ _ _ _ _ _ _ _ _ _ _ _ _ _ _ _ _ _ _ _ _ _ _ _ _ _ _ _ _ _ _ _ _ _ _ _ _ _ _ _ _ _ _ _ _ _ _ _ _ _ _ _ _ _ _ _ _ _ _ _ _ _ _ _ _ _ _ _ _ _ _ _ _ _ _ _ _ _ _ _ _ _ _ _ _ _ _ _ _ _ _ _ _ _ _ _ _ _ _ _ _ _ _ _ _ _ _ _ _ _ _ _ _ _ _ _ _ _ _ _ (by kernel_rfl) HL.out.ns HL.out.hh hn HL.out.rm HL.out.rh ?_
            intro x4 x18 x19 x20 x195 x196 x197 x198 x199 x200 x201 x202 x203 x204 x205 x206 x207 x208 x209 x210 x211 x212 x213 x214 x215 x216 x217 x218 x219 x220 x221
            go_wp2_with fail
            refine loop5 _ Bs (Bs + 1) (Bs + 1 + 1) (Bs + 1 + 1 + 1) n cnt met held (.few B) _ _ _ _ _ _ _ _ _ _ _ _ _ _ _ _ _ _ _ _ _ _ _ _ _ _ _ _ _ _ _ _ _ _ _ _ _ _ _ _ _ _ _ _ _ _ _ _ _ _ _ _ _ _ _ _ _ _ _ _ _ _ _ _ _ _ _ _ _ _ _ _ _ _ _ _ _ _ _ _ _ _ _ _ _ _ _ _ _ _ _ _ _ _ _ _ _ _ _ _ _ _ _ _ _ _ _ _ _ _ _ _ _ _ _ _ _ _ _ _ _ _ _ _ _ _ _ _ _ _ _ _ _ _ _ _ _ _ _ _ _ _ _ _ _ _ _ _ _ _ _ _ _ _ _ _ _ _ _ _ _ _ _ _ _ _ _ _ _ _ _ _ _ _ _ _ _ _ _ _ _ _ _ _ _ _ _ _ _ _ _ _ _ _ _ _ _ _ _ _ _ _ _ _ _ _ _ _ _ _ _ _ _ _ _ _ _ _ _ _ _ _ _ _ _ _ _ _ _ _ _ _ _ _ _ _ _ _ _ _ _ _ _ _ _ _ _ _ (by kernel_rfl) HL.out.ns HL.out.hh hn HL.out.rm HL.out.rh ?_
            intro y4 y21 y222 y223 y224 y225 y226 y227 y228 y229 y230 y231 y232 y233 y234 y235 y236 y237 y238 y239 y240 y241 y242 y243 y244 y245 y246 q
            go_wp2_with fail
            refine (zzn_calls (show NS (w'.drewN q) Bs (Bs + 1 + 1 + 1) n met held cnt (.few B) from HL.out.ns)).mono ?_
            rintro e w' ⟨rfl, rfl⟩
            go_wp2_with fail
            go_ret
            exact ⟨rfl, below_drewN HL.out.bel _⟩
      · obtain rfl : k = 0 := by omega
        have hnil := HL.out.nil rfl
        subst hnil
        go_wp2_with fail
        refine (manynil_calls HL.out.ns).mono ?_
        rintro e w' ⟨rfl, rfl⟩
        go_wp2_with fail
        refine (fewnil_calls HL.out.ns).mono ?_
        rintro e w' ⟨rfl, rfl⟩
        go_wp2_with fail
        refine loop5 _ Bs (Bs + 1) (Bs + 1 + 1) (Bs + 1 + 1 + 1) n cnt met held .nil _ _ _ _ _ _ _ _ _ _ _ _ _ _ _ _ _ _ _ _ _ _ _ _ _ _ _ _ _ _ _ _ _ _ _ _ _ _ _ _ _ _ _ _ _ _ _ _ _ _ _ _ _ _ _ _ _ _ _ _ _ _ _ _ _ _ _ _ _ _ _ _ _ _ _ _ _ _ _ _ _ _ _ _ _ _ _ _ _ _ _ _ _ _ _ _ _ _ _ _ _ _ _ _ _ _ _ _ _ _ _ _ _ _ _ _ _ _ _ _ _ _ _ _ _ _ _ _ _ _ _ _ _ _ _ _ _ _ _ _ _ _ _ _ _ _ _ _ _ _ _ _ _ _ _ _ _ _ _ _ _ _ _ _ _ _ _ _ _ _ _ _ _ _ _ _ _ _ _ _ _ _ _ _ _ _ _ _ _ _ _ _ _ _ _ _ _ _ _ _ _ _ _ _ _ _ _ _ _ _ _ _ _ _ _ _ _ _ _ _ _ _ _ _ _ _ _ _ _ _ _ _ _ _ _ _ _ _ _ _ _ _ _ _ _ _ _ _ (by kernel_rfl) HL.out.ns HL.out.hh hn HL.out.rm HL.out.rh ?_
        intro y4 y21 y222 y223 y224 y225 y226 y227 y228 y229 y230 y231 y232 y233 y234 y235 y236 y237 y238 y239 y240 y241 y242 y243 y244 y245 y246 q
        go_wp2_with fail
        refine (zzn_calls (show NS (w'.drewN q) Bs (Bs + 1 + 1 + 1) n met held cnt .nil from HL.out.ns)).mono ?_
        rintro e w' ⟨rfl, rfl⟩
        go_wp2_with fail
        go_ret
        exact ⟨rfl, below_drewN HL.out.bel _⟩

end Go.Proofs.Qxb6619590a

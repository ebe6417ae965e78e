/-
  Seat b6619590a: for add (27): the frame of what may turn; the regions that draw and write.
-/
import Derived.Test.Qxb6619590aSets
import Derived.RegionTactic
import Derived.BigRegion
import Derived.Deep.QuietTactic
import Derived.BigQuiet
import Derived.Deep.CutBlock
namespace Go.Proofs.Qxb6619590a
open Go.RowKit
set_option linter.unusedSimpArgs false
set_option linter.unusedVariables false

theorem hide {p : Prop} (h : p) : Hid p := h

/-- The 'if's whose test lies in slot n. -/
def condAt (n : Nat) : Code → List Code
  | .cond (.tmp k) a b => if k = n then [.cond (.tmp k) a b] else condAt n a ++ condAt n b
  | .cond _ a b => condAt n a ++ condAt n b
  | .loop c => condAt n c
  | .seq a b => condAt n a ++ condAt n b
  | .block _ c => condAt n c
  | .scope c => condAt n c
  | _ => []

/-- The regions of number n. -/
def regionAt (n : Nat) : Code → List Code
  | .region k ops d => if k = n then [.region k ops d] else []
  | .cond _ a b => regionAt n a ++ regionAt n b
  | .loop c => regionAt n c
  | .seq a b => regionAt n a ++ regionAt n b
  | .block _ c => regionAt n c
  | .scope c => regionAt n c
  | _ => []

/-- Below lo only block Bs may have turned. -/
structure Turn (Bs lo : Nat) (w w' : World) : Prop where
  os : w'.os = w.os
  tape : w'.tape = w.tape
  output : w'.output = w.output
  size : w.heap.size ≤ w'.heap.size
  block : ∀ i, i < lo → i ≠ Bs → w'.heap[i]? = w.heap[i]?

theorem Turn.refl (Bs lo : Nat) (w : World) : Turn Bs lo w w := ⟨rfl, rfl, rfl, Nat.le_refl _, fun _ _ _ => rfl⟩
theorem Turn.trans {Bs lo : Nat} {a b c : World} (h : Turn Bs lo a b) (k : Turn Bs lo b c) : Turn Bs lo a c :=
  ⟨k.os.trans h.os, k.tape.trans h.tape, k.output.trans h.output, Nat.le_trans h.size k.size, fun i hi hne => (k.block i hi hne).trans (h.block i hi hne)⟩
theorem Turn.alloc {Bs lo : Nat} {a w : World} (h : Turn Bs lo a w) (hB : lo ≤ w.heap.size) (o : Obj) : Turn Bs lo a (w.alloc o) :=
  h.trans ⟨rfl, rfl, rfl, by simp, fun i hi _ => Below.heap_alloc w o i (by omega)⟩
theorem Turn.setCell {Bs lo : Nat} {a w : World} (h : Turn Bs lo a w) {p : Addr} (hp : p.block = Bs ∨ lo ≤ p.block) (u : Value) : Turn Bs lo a (w.setCell p u) :=
  h.trans ⟨rfl, rfl, rfl, by simp, fun i hi hne => Below.heap_setCell w p u i (by omega)⟩
theorem Turn.grown {Bs lo : Nat} {a w w' : World} {row : Option Nat} (h : Turn Bs lo a w) (hg : w.grownBy w' row) (hB : lo ≤ w.heap.size) (hr : ∀ k, row = some k → lo ≤ k ∨ k = Bs) : Turn Bs lo a w' :=
  h.trans ⟨hg.os, hg.tape, hg.output, hg.size, fun i hi hne => hg.block i (by omega) (fun e => by
    have := hr i e.symm
    omega)⟩
theorem Turn.drewN {Bs lo : Nat} {a w : World} (h : Turn Bs lo a w) (q : Nat) : Turn Bs lo a (w.drewN q) := ⟨h.os, h.tape, h.output, h.size, h.block⟩
theorem Turn.drew {Bs lo : Nat} {a w : World} (h : Turn Bs lo a w) : Turn Bs lo a w.drew := ⟨h.os, h.tape, h.output, h.size, h.block⟩

set_option maxRecDepth 100000 in
set_option maxHeartbeats 2000000 in
theorem reg13 (W : World) (Bs B cnt k : Nat) (met held : Nat → Bool) (inn : Bool) (Q0 : Exit → Act → World → Prop)
    (c1 c4 c5 c6 c7 c8 c9 c10 c11 c12 c13 c14 c15 c16 c17 c18 c19 c20 c21 c22 c23 c24 c25 c26 c27 c28 c29 c30 c31 c32 c33 c34 c35 c36 c37 c38 c39 c40 c41 c42 c43 c44 c45 c46 c47 c48 c49 c50 c51 c52 c53 c54 c55 c56 c57 c58 c59 c60 c61 c62 c63 c64 c65 c66 c67 c68 c69 c70 c71 c72 c73 c74 c75 c76 c77 c78 c79 c80 c81 c82 c83 c84 c85 c86 c87 c88 c89 c90 c91 c92 c93 c94 c95 c96 c97 c98 c99 c100 c101 c102 c103 c104 c105 c106 c107 c108 c109 c110 c111 c112 c113 c114 c115 c116 c117 c118 c119 c120 c121 c122 c123 c124 c125 c126 c127 c128 c129 c130 c131 c132 : Value) (code : Code) (hcode : code = ((Try.f27.body.map (regionAt 13)).bind (·[0]?)).getD .skip)
    (hf : Few W B met held cnt) (hk : k < 2147483648) (hc : cnt < maxLen) (hc0 : W.cell? ⟨Bs, 0, none⟩ = some (.map (some B)))
    (hK : ∀ (u84 u85 u86 u87 u88 u89 u90 u91 u92 u93 u94 u95 u96 u97 : Value) (w' : World), Few w' B (upd met k true) (upd held k (held k || inn)) (if met k then cnt else cnt + 1) → W.grownBy w' (some B) → w'.heap.size = W.heap.size → Q0 .normal ⟨(List.toArray ((.pointer (some ⟨Bs, 0, none⟩) : Value) :: (c1 : Value) :: (.int .i32 (k : Int) : Value) :: (.bool inn : Value) :: (c4 : Value) :: (c5 : Value) :: (c6 : Value) :: (c7 : Value) :: (c8 : Value) :: (c9 : Value) :: (c10 : Value) :: (c11 : Value) :: (c12 : Value) :: (c13 : Value) :: (c14 : Value) :: (c15 : Value) :: (c16 : Value) :: (c17 : Value) :: (c18 : Value) :: (c19 : Value) :: (c20 : Value) :: (c21 : Value) :: (c22 : Value) :: (c23 : Value) :: (c24 : Value) :: (c25 : Value) :: (c26 : Value) :: (c27 : Value) :: (c28 : Value) :: (c29 : Value) :: (c30 : Value) :: (c31 : Value) :: (c32 : Value) :: (c33 : Value) :: (c34 : Value) :: (c35 : Value) :: (c36 : Value) :: (c37 : Value) :: (c38 : Value) :: (c39 : Value) :: (c40 : Value) :: (c41 : Value) :: (c42 : Value) :: (c43 : Value) :: (c44 : Value) :: (c45 : Value) :: (c46 : Value) :: (c47 : Value) :: (c48 : Value) :: (c49 : Value) :: (c50 : Value) :: (c51 : Value) :: (c52 : Value) :: (c53 : Value) :: (c54 : Value) :: (c55 : Value) :: (c56 : Value) :: (c57 : Value) :: (c58 : Value) :: (c59 : Value) :: (c60 : Value) :: (c61 : Value) :: (c62 : Value) :: (c63 : Value) :: (c64 : Value) :: (c65 : Value) :: (c66 : Value) :: (c67 : Value) :: (c68 : Value) :: (c69 : Value) :: (c70 : Value) :: (c71 : Value) :: (c72 : Value) :: (c73 : Value) :: (c74 : Value) :: (c75 : Value) :: (c76 : Value) :: (c77 : Value) :: (c78 : Value) :: (c79 : Value) :: (c80 : Value) :: (c81 : Value) :: (c82 : Value) :: (c83 : Value) :: (u84 : Value) :: (u85 : Value) :: (u86 : Value) :: (u87 : Value) :: (u88 : Value) :: (u89 : Value) :: (u90 : Value) :: (u91 : Value) :: (u92 : Value) :: (u93 : Value) :: (u94 : Value) :: (u95 : Value) :: (u96 : Value) :: (u97 : Value) :: (c98 : Value) :: (c99 : Value) :: (c100 : Value) :: (c101 : Value) :: (c102 : Value) :: (c103 : Value) :: (c104 : Value) :: (c105 : Value) :: (c106 : Value) :: (c107 : Value) :: (c108 : Value) :: (c109 : Value) :: (c110 : Value) :: (c111 : Value) :: (c112 : Value) :: (c113 : Value) :: (c114 : Value) :: (c115 : Value) :: (c116 : Value) :: (c117 : Value) :: (c118 : Value) :: (c119 : Value) :: (c120 : Value) :: (c121 : Value) :: (c122 : Value) :: (c123 : Value) :: (c124 : Value) :: (c125 : Value) :: (c126 : Value) :: (c127 : Value) :: (c128 : Value) :: (c129 : Value) :: (c130 : Value) :: (c131 : Value) :: (c132 : Value) :: [])), []⟩ w') :
    Code.wp Try.prog code Q0 ⟨(List.toArray ((.pointer (some ⟨Bs, 0, none⟩) : Value) :: (c1 : Value) :: (.int .i32 (k : Int) : Value) :: (.bool inn : Value) :: (c4 : Value) :: (c5 : Value) :: (c6 : Value) :: (c7 : Value) :: (c8 : Value) :: (c9 : Value) :: (c10 : Value) :: (c11 : Value) :: (c12 : Value) :: (c13 : Value) :: (c14 : Value) :: (c15 : Value) :: (c16 : Value) :: (c17 : Value) :: (c18 : Value) :: (c19 : Value) :: (c20 : Value) :: (c21 : Value) :: (c22 : Value) :: (c23 : Value) :: (c24 : Value) :: (c25 : Value) :: (c26 : Value) :: (c27 : Value) :: (c28 : Value) :: (c29 : Value) :: (c30 : Value) :: (c31 : Value) :: (c32 : Value) :: (c33 : Value) :: (c34 : Value) :: (c35 : Value) :: (c36 : Value) :: (c37 : Value) :: (c38 : Value) :: (c39 : Value) :: (c40 : Value) :: (c41 : Value) :: (c42 : Value) :: (c43 : Value) :: (c44 : Value) :: (c45 : Value) :: (c46 : Value) :: (c47 : Value) :: (c48 : Value) :: (c49 : Value) :: (c50 : Value) :: (c51 : Value) :: (c52 : Value) :: (c53 : Value) :: (c54 : Value) :: (c55 : Value) :: (c56 : Value) :: (c57 : Value) :: (c58 : Value) :: (c59 : Value) :: (c60 : Value) :: (c61 : Value) :: (c62 : Value) :: (c63 : Value) :: (c64 : Value) :: (c65 : Value) :: (c66 : Value) :: (c67 : Value) :: (c68 : Value) :: (c69 : Value) :: (c70 : Value) :: (c71 : Value) :: (c72 : Value) :: (c73 : Value) :: (c74 : Value) :: (c75 : Value) :: (c76 : Value) :: (c77 : Value) :: (c78 : Value) :: (c79 : Value) :: (c80 : Value) :: (c81 : Value) :: (c82 : Value) :: (c83 : Value) :: (c84 : Value) :: (c85 : Value) :: (c86 : Value) :: (c87 : Value) :: (c88 : Value) :: (c89 : Value) :: (c90 : Value) :: (c91 : Value) :: (c92 : Value) :: (c93 : Value) :: (c94 : Value) :: (c95 : Value) :: (c96 : Value) :: (c97 : Value) :: (c98 : Value) :: (c99 : Value) :: (c100 : Value) :: (c101 : Value) :: (c102 : Value) :: (c103 : Value) :: (c104 : Value) :: (c105 : Value) :: (c106 : Value) :: (c107 : Value) :: (c108 : Value) :: (c109 : Value) :: (c110 : Value) :: (c111 : Value) :: (c112 : Value) :: (c113 : Value) :: (c114 : Value) :: (c115 : Value) :: (c116 : Value) :: (c117 : Value) :: (c118 : Value) :: (c119 : Value) :: (c120 : Value) :: (c121 : Value) :: (c122 : Value) :: (c123 : Value) :: (c124 : Value) :: (c125 : Value) :: (c126 : Value) :: (c127 : Value) :: (c128 : Value) :: (c129 : Value) :: (c130 : Value) :: (c131 : Value) :: (c132 : Value) :: [])), []⟩ W := by
  subst hcode
  conv => arg 2; whnf
  have HK := hide hK
  clear hK
  have hfd : Few W.drew B met held cnt := hf
  have hl := hfd.look hk
  obtain ⟨w', hup, hf', hg', hs'⟩ := hfd.store hk hc (held k || inn)
  have hgW : W.grownBy w' (some B) := ⟨hg'.os, hg'.tape, hg'.output, hg'.size, hg'.block⟩
  have HF := hide (And.intro hf' (And.intro hgW hs'))
  clear hf' hg' hgW hs' hf hfd
  cases hh : held k
  · rw [hh] at hl
    rw [hh, Bool.false_or] at hup
    go_region
    exact HK.out _ _ _ _ _ _ _ _ _ _ _ _ _ _ _ HF.out.1 HF.out.2.1 HF.out.2.2
  · rw [hh] at hl
    rw [hh, Bool.true_or] at hup
    go_region
    exact HK.out _ _ _ _ _ _ _ _ _ _ _ _ _ _ _ HF.out.1 HF.out.2.1 HF.out.2.2

set_option maxRecDepth 100000 in
set_option maxHeartbeats 2000000 in
theorem reg17 (W : World) (Bs B n k : Nat) (s s' : Int) (inn : Bool) (Q0 : Exit → Act → World → Prop)
    (c1 c4 c5 c6 c7 c8 c9 c10 c11 c12 c13 c14 c15 c16 c17 c18 c19 c20 c21 c22 c23 c24 c25 c26 c27 c28 c29 c30 c31 c32 c33 c34 c35 c36 c37 c38 c39 c40 c41 c42 c43 c44 c45 c46 c47 c48 c49 c50 c51 c52 c53 c54 c55 c56 c57 c58 c59 c60 c61 c62 c63 c64 c65 c66 c67 c68 c69 c70 c71 c72 c73 c74 c75 c76 c77 c78 c79 c80 c81 c82 c83 c84 c85 c86 c87 c88 c89 c90 c91 c92 c93 c94 c95 c96 c97 c98 c99 c100 c101 c102 c103 c104 c105 c106 c107 c108 c109 c110 c111 c112 c113 c114 c115 c116 c117 c118 c119 c120 c121 c122 c123 c124 c125 c126 c127 c128 c129 c130 c131 c132 : Value) (code : Code) (hcode : code = ((Try.f27.body.map (regionAt 17)).bind (·[0]?)).getD .skip)
    (hk : k < n) (hn : n ≤ 262144) (hc1 : W.cell? ⟨Bs, 1, none⟩ = some (.slice (some ⟨B, 0, none⟩) n n)) (hcB : W.cell? ⟨B, k, none⟩ = some (.int .u8 s)) (hfB : W.frozen? ⟨B, k, none⟩ = false) (hs : s = 0 ∧ s' = 1 ∨ s = 1 ∧ s' = 1 ∨ s = 2 ∧ s' = 2)
    (hK : ∀ (u119 u120 u121 u122 u123 u124 u125 u126 u127 u128 u129 u130 u131 u132 : Value), Q0 .normal ⟨(List.toArray ((.pointer (some ⟨Bs, 0, none⟩) : Value) :: (c1 : Value) :: (.int .i32 (k : Int) : Value) :: (.bool inn : Value) :: (c4 : Value) :: (c5 : Value) :: (c6 : Value) :: (c7 : Value) :: (c8 : Value) :: (c9 : Value) :: (c10 : Value) :: (c11 : Value) :: (c12 : Value) :: (c13 : Value) :: (c14 : Value) :: (c15 : Value) :: (c16 : Value) :: (c17 : Value) :: (c18 : Value) :: (c19 : Value) :: (c20 : Value) :: (c21 : Value) :: (c22 : Value) :: (c23 : Value) :: (c24 : Value) :: (c25 : Value) :: (c26 : Value) :: (c27 : Value) :: (c28 : Value) :: (c29 : Value) :: (c30 : Value) :: (c31 : Value) :: (c32 : Value) :: (c33 : Value) :: (c34 : Value) :: (c35 : Value) :: (c36 : Value) :: (c37 : Value) :: (c38 : Value) :: (c39 : Value) :: (c40 : Value) :: (c41 : Value) :: (c42 : Value) :: (c43 : Value) :: (c44 : Value) :: (c45 : Value) :: (c46 : Value) :: (c47 : Value) :: (c48 : Value) :: (c49 : Value) :: (c50 : Value) :: (c51 : Value) :: (c52 : Value) :: (c53 : Value) :: (c54 : Value) :: (c55 : Value) :: (c56 : Value) :: (c57 : Value) :: (c58 : Value) :: (c59 : Value) :: (c60 : Value) :: (c61 : Value) :: (c62 : Value) :: (c63 : Value) :: (c64 : Value) :: (c65 : Value) :: (c66 : Value) :: (c67 : Value) :: (c68 : Value) :: (c69 : Value) :: (c70 : Value) :: (c71 : Value) :: (c72 : Value) :: (c73 : Value) :: (c74 : Value) :: (c75 : Value) :: (c76 : Value) :: (c77 : Value) :: (c78 : Value) :: (c79 : Value) :: (c80 : Value) :: (c81 : Value) :: (c82 : Value) :: (c83 : Value) :: (c84 : Value) :: (c85 : Value) :: (c86 : Value) :: (c87 : Value) :: (c88 : Value) :: (c89 : Value) :: (c90 : Value) :: (c91 : Value) :: (c92 : Value) :: (c93 : Value) :: (c94 : Value) :: (c95 : Value) :: (c96 : Value) :: (c97 : Value) :: (c98 : Value) :: (c99 : Value) :: (c100 : Value) :: (c101 : Value) :: (c102 : Value) :: (c103 : Value) :: (c104 : Value) :: (c105 : Value) :: (c106 : Value) :: (c107 : Value) :: (c108 : Value) :: (c109 : Value) :: (c110 : Value) :: (c111 : Value) :: (c112 : Value) :: (c113 : Value) :: (c114 : Value) :: (c115 : Value) :: (c116 : Value) :: (c117 : Value) :: (c118 : Value) :: (u119 : Value) :: (u120 : Value) :: (u121 : Value) :: (u122 : Value) :: (u123 : Value) :: (u124 : Value) :: (u125 : Value) :: (u126 : Value) :: (u127 : Value) :: (u128 : Value) :: (u129 : Value) :: (u130 : Value) :: (u131 : Value) :: (u132 : Value) :: [])), []⟩ (W.drew.setCell ⟨B, k, none⟩ (.int .u8 s'))) :
    Code.wp Try.prog code Q0 ⟨(List.toArray ((.pointer (some ⟨Bs, 0, none⟩) : Value) :: (c1 : Value) :: (.int .i32 (k : Int) : Value) :: (.bool inn : Value) :: (c4 : Value) :: (c5 : Value) :: (c6 : Value) :: (c7 : Value) :: (c8 : Value) :: (c9 : Value) :: (c10 : Value) :: (c11 : Value) :: (c12 : Value) :: (c13 : Value) :: (c14 : Value) :: (c15 : Value) :: (c16 : Value) :: (c17 : Value) :: (c18 : Value) :: (c19 : Value) :: (c20 : Value) :: (c21 : Value) :: (c22 : Value) :: (c23 : Value) :: (c24 : Value) :: (c25 : Value) :: (c26 : Value) :: (c27 : Value) :: (c28 : Value) :: (c29 : Value) :: (c30 : Value) :: (c31 : Value) :: (c32 : Value) :: (c33 : Value) :: (c34 : Value) :: (c35 : Value) :: (c36 : Value) :: (c37 : Value) :: (c38 : Value) :: (c39 : Value) :: (c40 : Value) :: (c41 : Value) :: (c42 : Value) :: (c43 : Value) :: (c44 : Value) :: (c45 : Value) :: (c46 : Value) :: (c47 : Value) :: (c48 : Value) :: (c49 : Value) :: (c50 : Value) :: (c51 : Value) :: (c52 : Value) :: (c53 : Value) :: (c54 : Value) :: (c55 : Value) :: (c56 : Value) :: (c57 : Value) :: (c58 : Value) :: (c59 : Value) :: (c60 : Value) :: (c61 : Value) :: (c62 : Value) :: (c63 : Value) :: (c64 : Value) :: (c65 : Value) :: (c66 : Value) :: (c67 : Value) :: (c68 : Value) :: (c69 : Value) :: (c70 : Value) :: (c71 : Value) :: (c72 : Value) :: (c73 : Value) :: (c74 : Value) :: (c75 : Value) :: (c76 : Value) :: (c77 : Value) :: (c78 : Value) :: (c79 : Value) :: (c80 : Value) :: (c81 : Value) :: (c82 : Value) :: (c83 : Value) :: (c84 : Value) :: (c85 : Value) :: (c86 : Value) :: (c87 : Value) :: (c88 : Value) :: (c89 : Value) :: (c90 : Value) :: (c91 : Value) :: (c92 : Value) :: (c93 : Value) :: (c94 : Value) :: (c95 : Value) :: (c96 : Value) :: (c97 : Value) :: (c98 : Value) :: (c99 : Value) :: (c100 : Value) :: (c101 : Value) :: (c102 : Value) :: (c103 : Value) :: (c104 : Value) :: (c105 : Value) :: (c106 : Value) :: (c107 : Value) :: (c108 : Value) :: (c109 : Value) :: (c110 : Value) :: (c111 : Value) :: (c112 : Value) :: (c113 : Value) :: (c114 : Value) :: (c115 : Value) :: (c116 : Value) :: (c117 : Value) :: (c118 : Value) :: (c119 : Value) :: (c120 : Value) :: (c121 : Value) :: (c122 : Value) :: (c123 : Value) :: (c124 : Value) :: (c125 : Value) :: (c126 : Value) :: (c127 : Value) :: (c128 : Value) :: (c129 : Value) :: (c130 : Value) :: (c131 : Value) :: (c132 : Value) :: [])), []⟩ W := by
  subst hcode
  conv => arg 2; whnf
  have HK := hide hK
  clear hK
  rcases hs with ⟨rfl, rfl⟩ | ⟨rfl, rfl⟩ | ⟨rfl, rfl⟩
  all_goals
    go_region
    exact HK.out _ _ _ _ _ _ _ _ _ _ _ _ _ _

end Go.Proofs.Qxb6619590a

/-
  Seat b6619590a: the law's second loop.
-/
import Derived.Test.Qxb6619590aLoopBase
namespace Go.Proofs.Qxb6619590a
open Go.RowKit
set_option linter.unusedSimpArgs false
set_option linter.unusedVariables false
attribute [local go_sem] eq_s0 eq_s1 eq_m0 eq_m1

/-- What stands before a round of the law's second loop: t adds are done. -/
structure L2 (w wr : World) (Bs Bm Bh Bg lo n : Nat) (ga : Option Addr) (gc t cnt bef : Nat) (met held : Nat → Bool) (md : Mode) : Prop where
  ct : cnt ≤ t
  bc : bef ≤ cnt
  hh : ∀ k, held k = true → met k = true
  mn : ∀ k, met k = true → k < n
  ns : NS wr Bs lo n met held cnt md
  rm : wr.rowIs Bm 4 n (fun j => .bool (met j))
  rh : wr.rowIs Bh 4 n (fun j => .bool (held j))
  g : wr.cell? ⟨Bg, 0, none⟩ = some (.slice ga n gc)
  bel : Below w.heap.size w wr
  lo : lo ≤ wr.heap.size
  nil : t = 0 → md = .nil
  mode : 0 < t → md.isMany = decide (n < (bef + 1) * 8) ∧ md.isFew = !md.isMany

theorem add1 (a : Addr) (i : Nat) : (a.add i).add 1 = a.add (i + 1) := by
  by_cases h : i = 0
  · subst h; rfl
  · simp [Addr.add, h, Nat.add_assoc]

theorem ns_set {w : World} {Bs lo n cnt : Nat} {met held : Nat → Bool} {md : Mode} (h : NS w Bs lo n met held cnt md) {a : Addr} (h1 : a.block ≠ Bs) (h2 : a.block < lo) (u : Value) : NS (w.setCell a u) Bs lo n met held cnt md :=
  h.kept (Below.heap_setCell w a u Bs (Ne.symm h1)) (fun i hi _ => Below.heap_setCell w a u i (by omega))
theorem row_upd {w : World} {B n : Nat} {f : Nat → Bool} (h : w.rowIs B 4 n (fun j => .bool (f j))) (k : Nat) (b : Bool) : (w.setCell ⟨B, k, none⟩ (.bool b)).rowIs B 4 n (fun j => .bool (upd f k b j)) :=
  (h.set k (.bool b)).congr fun j _ => by
    by_cases e : j = k
    · subst e; rw [if_pos rfl, upd_same]
    · rw [if_neg e, upd_other _ _ e]
theorem upd_id {f : Nat → Bool} {k : Nat} {b : Bool} (h : f k = b) (j : Nat) : upd f k b j = f j := by
  by_cases e : j = k
  · subst e; rw [upd_same, h]
  · rw [upd_other _ _ e]
theorem heldTo_true (f : Nat → Bool) (k : Nat) : heldTo f k true = upd f k true := by unfold heldTo; rw [Bool.or_true]
theorem heldTo_false (f : Nat → Bool) (k j : Nat) : heldTo f k false j = f j := by unfold heldTo; exact upd_id (by rw [Bool.or_false]) j

theorem L2.drewN {w wr : World} {Bs Bm Bh Bg lo n gc t cnt bef : Nat} {ga : Option Addr} {met held : Nat → Bool} {md : Mode} (h : L2 w wr Bs Bm Bh Bg lo n ga gc t cnt bef met held md) (q : Nat) : L2 w (wr.drewN q) Bs Bm Bh Bg lo n ga gc t cnt bef met held md :=
  ⟨h.ct, h.bc, h.hh, h.mn, h.ns, h.rm, h.rh, h.g, below_drewN h.bel q, h.lo, h.nil, h.mode⟩

theorem l2_next {w wr W : World} {Bs Bm Bh Bg lo n gc t cnt bef k cnt' : Nat} {ga : Option Addr} {met held : Nat → Bool} {md m1 : Mode} {inn : Bool} (h : L2 w wr Bs Bm Bh Bg lo n ga gc t cnt bef met held md) (p3 : k < n)
    (hm1 : m1.isMany = (md.isMany || decide (n < (cnt + 1) * 8))) (hm2 : m1.isFew = !m1.isMany) (hc : cnt' = cnt ∨ cnt' = cnt + 1)
    (ns : NS W Bs lo n (upd met k true) (heldTo held k inn) cnt' m1) (rm : W.rowIs Bm 4 n (fun j => .bool (upd met k true j))) (rh : W.rowIs Bh 4 n (fun j => .bool (heldTo held k inn j))) (g : W.cell? ⟨Bg, 0, none⟩ = some (.slice ga n gc))
    (bel : Below w.heap.size w W) (lo' : lo ≤ W.heap.size) : L2 w W Bs Bm Bh Bg lo n ga gc (t + 1) cnt' cnt (upd met k true) (heldTo held k inn) m1 := by
  have h1 := h.ct
  refine ⟨by omega, by omega, heldTo_met h.hh k inn, upd_lt h.mn p3, ns, rm, rh, g, bel, lo', fun e => by omega, fun _ => ⟨?_, hm2⟩⟩
  rw [hm1]
  by_cases e : t = 0
  · rw [h.nil e]; rfl
  · rw [(h.mode (by omega)).1]
    by_cases e1 : n < (cnt + 1) * 8
    · rw [decide_eq_true e1]; simp
    · have h2 := h.bc
      rw [decide_eq_false e1, decide_eq_false (by omega)]; rfl

theorem turn_below {w a b : World} {Bs lo : Nat} (h : Below w.heap.size w a) (k : Turn Bs lo a b) (h1 : w.heap.size ≤ Bs) (h2 : w.heap.size ≤ lo) : Below w.heap.size w b :=
  h.trans ⟨k.os, k.tape, k.output, k.size, fun i hi => k.block i (by omega) (by omega)⟩

set_option maxRecDepth 100000 in
set_option maxHeartbeats 4000000 in
theorem loop2 (w w0 : World) (Bs Bm Bh Bg lo n m m' gc : Nat) (ga a1 : Option Addr) (kn : Nat → Nat) (ins : Nat → Bool) (Q0 : Exit → Act → World → Prop)
    (c0 c2 c3 c4 c6 c14 c15 c16 c17 c18 c19 c20 c21 c22 c23 c24 c25 c26 c27 c28 c29 c30 c31 c32 c33 c34 c35 c36 c37 c38 c39 c40 c41 c42 c43 c44 c45 c46 c47 c48 c49 c50 c51 c52 c53 c54 c55 c56 c57 c58 c59 c60 c61 c62 c63 c64 c65 c66 c67 c68 c69 c70 c71 c72 c73 c74 c75 c76 c77 c78 c79 c80 c81 c82 c83 c84 c85 c86 c87 c88 c89 c90 c91 c92 c93 c94 c95 c96 c97 c98 c99 c100 c101 c102 c103 c104 c105 c106 c107 c108 c109 c110 c111 c112 c113 c114 c115 c116 c117 c118 c119 c120 c121 c122 c123 c124 c125 c126 c127 c128 c129 c130 c131 c132 c133 c134 c135 c136 c137 c138 c139 c140 c141 c142 c143 c144 c145 c146 c147 c148 c149 c150 c151 c152 c153 c154 c155 c156 c157 c158 c159 c160 c161 c162 c163 c164 c165 c166 c167 c168 c169 c170 c171 c172 c173 c174 c175 c176 c177 c178 c179 c180 c181 c182 c183 c184 c185 c186 c187 c188 c189 c190 c191 c192 c193 c194 c195 c196 c197 c198 c199 c200 c201 c202 c203 c204 c205 c206 c207 c208 c209 c210 c211 c212 c213 c214 c215 c216 c217 c218 c219 c220 c221 c222 c223 c224 c225 c226 c227 c228 c229 c230 c231 c232 c233 c234 c235 c236 c237 c238 c239 c240 c241 c242 c243 c244 c245 c246 c247 c248 c249 c250 : Value) (body : Code) (hbody : body = (((Try.f3.body.map allLoops).bind (·[1]?)).getD .skip))
    (hn : n ≤ 262144) (hm : m ≤ 131072) (hops : 0 < m → ∃ x, a1 = some x ∧ ∀ j, j < m → w.cell? (x.add (j * 2)) = some (.int .i32 (kn j : Int)) ∧ w.cell? (x.add (j * 2 + 1)) = some (.bool (ins j)) ∧ kn j < n)
    (hw : w.heap.size ≤ Bs ∧ w.heap.size ≤ Bm ∧ w.heap.size ≤ Bh ∧ w.heap.size ≤ Bg ∧ Bs < lo ∧ Bm < lo ∧ Bh < lo ∧ Bg < lo ∧ Bg ≠ Bs ∧ Bm ≠ Bs ∧ Bh ≠ Bs ∧ Bm ≠ Bh ∧ Bm ≠ Bg ∧ Bh ≠ Bg)
    (h0 : L2 w w0 Bs Bm Bh Bg lo n ga gc 0 0 0 (fun _ => false) (fun _ => false) .nil)
    (hexit : ∀ (u4 u14 u77 u78 u79 u80 u81 u82 u83 u84 u85 u86 u87 u88 u89 u90 u91 u92 u93 u94 u95 u96 u97 u98 u99 u100 u101 u102 u103 u104 u105 u106 u107 u108 u109 u110 u111 u112 u113 u114 u115 u116 u117 u118 u119 u120 u121 u122 u123 u124 u125 u126 u127 u128 u129 u130 u131 u132 u133 u134 u135 : Value) (wr : World) (cnt bef : Nat) (met held : Nat → Bool) (md : Mode), L2 w wr Bs Bm Bh Bg lo n ga gc m cnt bef met held md → Q0 (.exit 2) ⟨(List.toArray ((c0 : Value) :: (.slice a1 m m' : Value) :: (c2 : Value) :: (c3 : Value) :: (u4 : Value) :: (.int .i64 n : Value) :: (c6 : Value) :: (.pointer (some ⟨Bg, 0, none⟩) : Value) :: (.pointer (some ⟨Bs, 0, none⟩) : Value) :: (.slice (some ⟨Bm, 0, none⟩) n n : Value) :: (.slice (some ⟨Bh, 0, none⟩) n n : Value) :: (.int .i64 cnt : Value) :: (.int .i64 bef : Value) :: (.int .i64 m : Value) :: (u14 : Value) :: (c15 : Value) :: (c16 : Value) :: (c17 : Value) :: (c18 : Value) :: (c19 : Value) :: (c20 : Value) :: (c21 : Value) :: (c22 : Value) :: (c23 : Value) :: (c24 : Value) :: (c25 : Value) :: (c26 : Value) :: (c27 : Value) :: (c28 : Value) :: (c29 : Value) :: (c30 : Value) :: (c31 : Value) :: (c32 : Value) :: (c33 : Value) :: (c34 : Value) :: (c35 : Value) :: (c36 : Value) :: (c37 : Value) :: (c38 : Value) :: (c39 : Value) :: (c40 : Value) :: (c41 : Value) :: (c42 : Value) :: (c43 : Value) :: (c44 : Value) :: (c45 : Value) :: (c46 : Value) :: (c47 : Value) :: (c48 : Value) :: (c49 : Value) :: (c50 : Value) :: (c51 : Value) :: (c52 : Value) :: (c53 : Value) :: (c54 : Value) :: (c55 : Value) :: (c56 : Value) :: (c57 : Value) :: (c58 : Value) :: (c59 : Value) :: (c60 : Value) :: (c61 : Value) :: (c62 : Value) :: (c63 : Value) :: (c64 : Value) :: (c65 : Value) :: (c66 : Value) :: (c67 : Value) :: (c68 : Value) :: (c69 : Value) :: (c70 : Value) :: (c71 : Value) :: (c72 : Value) :: (c73 : Value) :: (c74 : Value) :: (c75 : Value) :: (c76 : Value) :: (u77 : Value) :: (u78 : Value) :: (u79 : Value) :: (u80 : Value) :: (u81 : Value) :: (u82 : Value) :: (u83 : Value) :: (u84 : Value) :: (u85 : Value) :: (u86 : Value) :: (u87 : Value) :: (u88 : Value) :: (u89 : Value) :: (u90 : Value) :: (u91 : Value) :: (u92 : Value) :: (u93 : Value) :: (u94 : Value) :: (u95 : Value) :: (u96 : Value) :: (u97 : Value) :: (u98 : Value) :: (u99 : Value) :: (u100 : Value) :: (u101 : Value) :: (u102 : Value) :: (u103 : Value) :: (u104 : Value) :: (u105 : Value) :: (u106 : Value) :: (u107 : Value) :: (u108 : Value) :: (u109 : Value) :: (u110 : Value) :: (u111 : Value) :: (u112 : Value) :: (u113 : Value) :: (u114 : Value) :: (u115 : Value) :: (u116 : Value) :: (u117 : Value) :: (u118 : Value) :: (u119 : Value) :: (u120 : Value) :: (u121 : Value) :: (u122 : Value) :: (u123 : Value) :: (u124 : Value) :: (u125 : Value) :: (u126 : Value) :: (u127 : Value) :: (u128 : Value) :: (u129 : Value) :: (u130 : Value) :: (u131 : Value) :: (u132 : Value) :: (u133 : Value) :: (u134 : Value) :: (u135 : Value) :: (c136 : Value) :: (c137 : Value) :: (c138 : Value) :: (c139 : Value) :: (c140 : Value) :: (c141 : Value) :: (c142 : Value) :: (c143 : Value) :: (c144 : Value) :: (c145 : Value) :: (c146 : Value) :: (c147 : Value) :: (c148 : Value) :: (c149 : Value) :: (c150 : Value) :: (c151 : Value) :: (c152 : Value) :: (c153 : Value) :: (c154 : Value) :: (c155 : Value) :: (c156 : Value) :: (c157 : Value) :: (c158 : Value) :: (c159 : Value) :: (c160 : Value) :: (c161 : Value) :: (c162 : Value) :: (c163 : Value) :: (c164 : Value) :: (c165 : Value) :: (c166 : Value) :: (c167 : Value) :: (c168 : Value) :: (c169 : Value) :: (c170 : Value) :: (c171 : Value) :: (c172 : Value) :: (c173 : Value) :: (c174 : Value) :: (c175 : Value) :: (c176 : Value) :: (c177 : Value) :: (c178 : Value) :: (c179 : Value) :: (c180 : Value) :: (c181 : Value) :: (c182 : Value) :: (c183 : Value) :: (c184 : Value) :: (c185 : Value) :: (c186 : Value) :: (c187 : Value) :: (c188 : Value) :: (c189 : Value) :: (c190 : Value) :: (c191 : Value) :: (c192 : Value) :: (c193 : Value) :: (c194 : Value) :: (c195 : Value) :: (c196 : Value) :: (c197 : Value) :: (c198 : Value) :: (c199 : Value) :: (c200 : Value) :: (c201 : Value) :: (c202 : Value) :: (c203 : Value) :: (c204 : Value) :: (c205 : Value) :: (c206 : Value) :: (c207 : Value) :: (c208 : Value) :: (c209 : Value) :: (c210 : Value) :: (c211 : Value) :: (c212 : Value) :: (c213 : Value) :: (c214 : Value) :: (c215 : Value) :: (c216 : Value) :: (c217 : Value) :: (c218 : Value) :: (c219 : Value) :: (c220 : Value) :: (c221 : Value) :: (c222 : Value) :: (c223 : Value) :: (c224 : Value) :: (c225 : Value) :: (c226 : Value) :: (c227 : Value) :: (c228 : Value) :: (c229 : Value) :: (c230 : Value) :: (c231 : Value) :: (c232 : Value) :: (c233 : Value) :: (c234 : Value) :: (c235 : Value) :: (c236 : Value) :: (c237 : Value) :: (c238 : Value) :: (c239 : Value) :: (c240 : Value) :: (c241 : Value) :: (c242 : Value) :: (c243 : Value) :: (c244 : Value) :: (c245 : Value) :: (c246 : Value) :: (c247 : Value) :: (c248 : Value) :: (c249 : Value) :: (c250 : Value) :: [])), []⟩ wr) :
    Code.wp Try.prog (.loop body) Q0 ⟨(List.toArray ((c0 : Value) :: (.slice a1 m m' : Value) :: (c2 : Value) :: (c3 : Value) :: (c4 : Value) :: (.int .i64 n : Value) :: (c6 : Value) :: (.pointer (some ⟨Bg, 0, none⟩) : Value) :: (.pointer (some ⟨Bs, 0, none⟩) : Value) :: (.slice (some ⟨Bm, 0, none⟩) n n : Value) :: (.slice (some ⟨Bh, 0, none⟩) n n : Value) :: (.int .i64 0 : Value) :: (.int .i64 0 : Value) :: (.int .i64 0 : Value) :: (c14 : Value) :: (c15 : Value) :: (c16 : Value) :: (c17 : Value) :: (c18 : Value) :: (c19 : Value) :: (c20 : Value) :: (c21 : Value) :: (c22 : Value) :: (c23 : Value) :: (c24 : Value) :: (c25 : Value) :: (c26 : Value) :: (c27 : Value) :: (c28 : Value) :: (c29 : Value) :: (c30 : Value) :: (c31 : Value) :: (c32 : Value) :: (c33 : Value) :: (c34 : Value) :: (c35 : Value) :: (c36 : Value) :: (c37 : Value) :: (c38 : Value) :: (c39 : Value) :: (c40 : Value) :: (c41 : Value) :: (c42 : Value) :: (c43 : Value) :: (c44 : Value) :: (c45 : Value) :: (c46 : Value) :: (c47 : Value) :: (c48 : Value) :: (c49 : Value) :: (c50 : Value) :: (c51 : Value) :: (c52 : Value) :: (c53 : Value) :: (c54 : Value) :: (c55 : Value) :: (c56 : Value) :: (c57 : Value) :: (c58 : Value) :: (c59 : Value) :: (c60 : Value) :: (c61 : Value) :: (c62 : Value) :: (c63 : Value) :: (c64 : Value) :: (c65 : Value) :: (c66 : Value) :: (c67 : Value) :: (c68 : Value) :: (c69 : Value) :: (c70 : Value) :: (c71 : Value) :: (c72 : Value) :: (c73 : Value) :: (c74 : Value) :: (c75 : Value) :: (c76 : Value) :: (c77 : Value) :: (c78 : Value) :: (c79 : Value) :: (c80 : Value) :: (c81 : Value) :: (c82 : Value) :: (c83 : Value) :: (c84 : Value) :: (c85 : Value) :: (c86 : Value) :: (c87 : Value) :: (c88 : Value) :: (c89 : Value) :: (c90 : Value) :: (c91 : Value) :: (c92 : Value) :: (c93 : Value) :: (c94 : Value) :: (c95 : Value) :: (c96 : Value) :: (c97 : Value) :: (c98 : Value) :: (c99 : Value) :: (c100 : Value) :: (c101 : Value) :: (c102 : Value) :: (c103 : Value) :: (c104 : Value) :: (c105 : Value) :: (c106 : Value) :: (c107 : Value) :: (c108 : Value) :: (c109 : Value) :: (c110 : Value) :: (c111 : Value) :: (c112 : Value) :: (c113 : Value) :: (c114 : Value) :: (c115 : Value) :: (c116 : Value) :: (c117 : Value) :: (c118 : Value) :: (c119 : Value) :: (c120 : Value) :: (c121 : Value) :: (c122 : Value) :: (c123 : Value) :: (c124 : Value) :: (c125 : Value) :: (c126 : Value) :: (c127 : Value) :: (c128 : Value) :: (c129 : Value) :: (c130 : Value) :: (c131 : Value) :: (c132 : Value) :: (c133 : Value) :: (c134 : Value) :: (c135 : Value) :: (c136 : Value) :: (c137 : Value) :: (c138 : Value) :: (c139 : Value) :: (c140 : Value) :: (c141 : Value) :: (c142 : Value) :: (c143 : Value) :: (c144 : Value) :: (c145 : Value) :: (c146 : Value) :: (c147 : Value) :: (c148 : Value) :: (c149 : Value) :: (c150 : Value) :: (c151 : Value) :: (c152 : Value) :: (c153 : Value) :: (c154 : Value) :: (c155 : Value) :: (c156 : Value) :: (c157 : Value) :: (c158 : Value) :: (c159 : Value) :: (c160 : Value) :: (c161 : Value) :: (c162 : Value) :: (c163 : Value) :: (c164 : Value) :: (c165 : Value) :: (c166 : Value) :: (c167 : Value) :: (c168 : Value) :: (c169 : Value) :: (c170 : Value) :: (c171 : Value) :: (c172 : Value) :: (c173 : Value) :: (c174 : Value) :: (c175 : Value) :: (c176 : Value) :: (c177 : Value) :: (c178 : Value) :: (c179 : Value) :: (c180 : Value) :: (c181 : Value) :: (c182 : Value) :: (c183 : Value) :: (c184 : Value) :: (c185 : Value) :: (c186 : Value) :: (c187 : Value) :: (c188 : Value) :: (c189 : Value) :: (c190 : Value) :: (c191 : Value) :: (c192 : Value) :: (c193 : Value) :: (c194 : Value) :: (c195 : Value) :: (c196 : Value) :: (c197 : Value) :: (c198 : Value) :: (c199 : Value) :: (c200 : Value) :: (c201 : Value) :: (c202 : Value) :: (c203 : Value) :: (c204 : Value) :: (c205 : Value) :: (c206 : Value) :: (c207 : Value) :: (c208 : Value) :: (c209 : Value) :: (c210 : Value) :: (c211 : Value) :: (c212 : Value) :: (c213 : Value) :: (c214 : Value) :: (c215 : Value) :: (c216 : Value) :: (c217 : Value) :: (c218 : Value) :: (c219 : Value) :: (c220 : Value) :: (c221 : Value) :: (c222 : Value) :: (c223 : Value) :: (c224 : Value) :: (c225 : Value) :: (c226 : Value) :: (c227 : Value) :: (c228 : Value) :: (c229 : Value) :: (c230 : Value) :: (c231 : Value) :: (c232 : Value) :: (c233 : Value) :: (c234 : Value) :: (c235 : Value) :: (c236 : Value) :: (c237 : Value) :: (c238 : Value) :: (c239 : Value) :: (c240 : Value) :: (c241 : Value) :: (c242 : Value) :: (c243 : Value) :: (c244 : Value) :: (c245 : Value) :: (c246 : Value) :: (c247 : Value) :: (c248 : Value) :: (c249 : Value) :: (c250 : Value) :: [])), []⟩ w0 := by
  subst hbody
  conv => arg 2; arg 1; whnf
  have HX := hide hexit
  have HO := hide hops
  have HW := hide hw
  clear hexit hops hw
  go_loopw [11, 12, 13] (fun d b i wr => ∃ (t cnt bef : Nat) (met held : Nat → Bool) (md : Mode), t ≤ m ∧ i = .int .i64 t ∧ d = .int .i64 cnt ∧ b = .int .i64 bef ∧ L2 w wr Bs Bm Bh Bg lo n ga gc t cnt bef met held md) (fun _ _ i _ => m - (intOf i).toNat)
  case atStart => exact ⟨0, 0, 0, _, _, _, Nat.zero_le _, rfl, rfl, rfl, h0⟩
  case round =>
    clear h0
    obtain ⟨t, cnt, bef, met, held, md, ht, rfl, rfl, rfl, hL⟩ := hrel
    have HL := hide hL
    have hct := hL.ct
    clear hL
    by_cases hlt : t < m
    · obtain ⟨x, rfl, hc⟩ := HO.out (by omega)
      obtain ⟨p1, p2, p3⟩ := hc t hlt
      have q1 : wr.cell? (x.add (t * 2)) = some (.int .i32 (kn t : Int)) := (HL.out.bel.cell (World.block_lt_of_cell? w _ p1)).trans p1
      have q2 : wr.cell? (x.add (t * 2 + 1)) = some (.bool (ins t)) := (HL.out.bel.cell (World.block_lt_of_cell? w _ p2)).trans p2
      have q2' : wr.cell? ⟨(x.add (t * 2)).block, (x.add (t * 2)).off + 1, none⟩ = some (.bool (ins t)) := by
        have e : (x.add (t * 2)).add 1 = ⟨(x.add (t * 2)).block, (x.add (t * 2)).off + 1, none⟩ := rfl
        rw [← e, add1]; exact q2
      have p2' : w.cell? ⟨(x.add (t * 2)).block, (x.add (t * 2)).off + 1, none⟩ = some (.bool (ins t)) := by
        have e : (x.add (t * 2)).add 1 = ⟨(x.add (t * 2)).block, (x.add (t * 2)).off + 1, none⟩ := rfl
        rw [← e, add1]; exact p2
      have P2 := hide p2'
      clear hc p1 p2 p2'
      generalize kn t = k at *
      generalize ins t = inn at *
      go_wp2_with fail
      have HWo := HW.out
      obtain ⟨w1', w2', w3', w4', w5', w6', w7', w8', w9', w10', w11', w12', w13', w14'⟩ := HWo
      refine (zzadd_calls HL.out.ns HL.out.hh HL.out.mn hn p3 inn (by omega) HL.out.g w5' w8' w9' HL.out.lo).mono ?_
      rintro e w1 ⟨rfl, ⟨m1, hm1, hm2, hN1⟩, hT⟩
      have hbel := turn_below HL.out.bel hT w1' (by omega)
      have r2 : w1.cell? ⟨(x.add (t * 2)).block, (x.add (t * 2)).off + 1, none⟩ = some (.bool inn) := (hbel.cell (World.block_lt_of_cell? w _ P2.out)).trans P2.out
      have hxw : (x.add (t * 2)).block < w.heap.size := World.block_lt_of_cell? w ⟨(x.add (t * 2)).block, (x.add (t * 2)).off + 1, none⟩ P2.out
      have r2s : (w1.setCell ⟨Bm, k, none⟩ (.bool true)).cell? ⟨(x.add (t * 2)).block, (x.add (t * 2)).off + 1, none⟩ = some (.bool inn) :=
        (World.cell?_of_block (w := w1) (Below.heap_setCell w1 _ _ _ (by show (x.add (t * 2)).block ≠ Bm; omega))).trans r2
      have rm1 := HL.out.rm.of_block (hT.block Bm w6' w10')
      have rh1 := HL.out.rh.of_block (hT.block Bh w7' w11')
      have g1 : w1.cell? ⟨Bg, 0, none⟩ = some (.slice ga n gc) := (World.cell?_of_block (w := wr) (hT.block Bg w8' w9')).trans HL.out.g
      have dm := rm1.cell p3
      have dh := rh1.cell p3
      have fm := rm1.frozen k
      have fh := rh1.frozen k
      have dhs := (rh1.setOther (a := ⟨Bm, k, none⟩) (by show Bh ≠ Bm; omega) (.bool true)).cell p3
      have fhs := (rh1.setOther (a := ⟨Bm, k, none⟩) (by show Bh ≠ Bm; omega) (.bool true)).frozen k
      have hlo1 : lo ≤ w1.heap.size := Nat.le_trans HL.out.lo hT.size
      have HN1 := hide (And.intro hm1 (And.intro hm2 (And.intro hN1 (And.intro rm1 (And.intro rh1 (And.intro g1 (And.intro hbel hlo1)))))))
      clear q1 q2 q2' hT hm1 hm2 hN1 rm1 rh1 g1 hbel hlo1
      cases hmk : met k
      · rw [hmk] at dm
        clear r2 dh fh
        cases inn
        · have HF : Hid (L2 w (w1.setCell ⟨Bm, k, none⟩ (.bool true)) Bs Bm Bh Bg lo n ga gc (t + 1) (cnt + 1) cnt (upd met k true) (heldTo held k false) m1) :=
            l2_next HL.out p3 HN1.out.1 HN1.out.2.1 (by omega) (ns_set (by have g := HN1.out.2.2.1; rw [cntTo_new hmk] at g; exact g) (a := ⟨Bm, k, none⟩) w10' w6' (.bool true)) (row_upd HN1.out.2.2.2.1 k true) ((HN1.out.2.2.2.2.1.setOther (a := ⟨Bm, k, none⟩) (by show Bh ≠ Bm; omega) (.bool true)).congr fun j _ => by rw [heldTo_false]) ((World.cell?_of_block (w := w1) (Below.heap_setCell w1 ⟨Bm, k, none⟩ (.bool true) Bg (by show Bg ≠ Bm; omega))).trans HN1.out.2.2.2.2.2.1) (HN1.out.2.2.2.2.2.2.1.setCell (p := ⟨Bm, k, none⟩) w2' (.bool true)) (by simp; exact HN1.out.2.2.2.2.2.2.2)
          clear HN1
          go_upto_region 31 with fail
          refine reg31 (w1.setCell ⟨Bm, k, none⟩ (.bool true)) Bs Bh lo n (cnt + 1) k (upd met k true) (heldTo held k false) m1 _ _ _ _ _ _ _ _ _ _ _ _ _ _ _ _ _ _ _ _ _ _ _ _ _ _ _ _ _ _ _ _ _ _ _ _ _ _ _ _ _ _ _ _ _ _ _ _ _ _ _ _ _ _ _ _ _ _ _ _ _ _ _ _ _ _ _ _ _ _ _ _ _ _ _ _ _ _ _ _ _ _ _ _ _ _ _ _ _ _ _ _ _ _ _ _ _ _ _ _ _ _ _ _ _ _ _ _ _ _ _ _ _ _ _ _ _ _ _ _ _ _ _ _ _ _ _ _ _ _ _ _ _ _ _ _ _ _ _ _ _ _ _ _ _ _ _ _ _ _ _ _ _ _ _ _ _ _ _ _ _ _ _ _ _ _ _ _ _ _ _ _ _ _ _ _ _ _ _ _ _ _ _ _ _ _ _ _ _ _ _ _ _ _ _ _ _ _ _ _ _ _ _ _ _ _ _ _ _ _ _ _ _ _ _ _ _ _ _ _ _ _ _ _ _ _ _ _ _ _ _ _ _ _ _ _ _ _ _ _ _ _ _ _ _ _ _ _ _ _ (by kernel_rfl) HF.out.ns HF.out.hh hn p3 (by omega) (upd_same _ _ _) HF.out.rh ?_
          intro z116 z117 z118 z119 z120 z121 z122 z123 z124 z125 z126 z127 z128 z129 z130 z131 z132 z133 z134 q
          go_wp2_with fail
          go_roundw
          case rel => exact ⟨t + 1, (cnt + 1), cnt, _, _, m1, by omega, by go_num, by go_num, rfl, HF.out.drewN q⟩
          case measure => simp [intOf]; omega
        · have HF : Hid (L2 w ((w1.setCell ⟨Bm, k, none⟩ (.bool true)).setCell ⟨Bh, k, none⟩ (.bool true)) Bs Bm Bh Bg lo n ga gc (t + 1) (cnt + 1) cnt (upd met k true) (heldTo held k true) m1) :=
            l2_next HL.out p3 HN1.out.1 HN1.out.2.1 (by omega) (ns_set (ns_set (by have g := HN1.out.2.2.1; rw [cntTo_new hmk] at g; exact g) (a := ⟨Bm, k, none⟩) w10' w6' (.bool true)) (a := ⟨Bh, k, none⟩) w11' w7' (.bool true)) ((row_upd HN1.out.2.2.2.1 k true).setOther (a := ⟨Bh, k, none⟩) (by show Bm ≠ Bh; omega) (.bool true)) (by rw [heldTo_true]; exact row_upd (HN1.out.2.2.2.2.1.setOther (a := ⟨Bm, k, none⟩) (by show Bh ≠ Bm; omega) (.bool true)) k true) ((World.cell?_of_block (Below.heap_setCell _ ⟨Bh, k, none⟩ (.bool true) Bg (by show Bg ≠ Bh; omega))).trans ((World.cell?_of_block (w := w1) (Below.heap_setCell w1 ⟨Bm, k, none⟩ (.bool true) Bg (by show Bg ≠ Bm; omega))).trans HN1.out.2.2.2.2.2.1)) ((HN1.out.2.2.2.2.2.2.1.setCell (p := ⟨Bm, k, none⟩) w2' (.bool true)).setCell (p := ⟨Bh, k, none⟩) w3' (.bool true)) (by simp; exact HN1.out.2.2.2.2.2.2.2)
          clear HN1
          go_upto_region 31 with fail
          refine reg31 ((w1.setCell ⟨Bm, k, none⟩ (.bool true)).setCell ⟨Bh, k, none⟩ (.bool true)) Bs Bh lo n (cnt + 1) k (upd met k true) (heldTo held k true) m1 _ _ _ _ _ _ _ _ _ _ _ _ _ _ _ _ _ _ _ _ _ _ _ _ _ _ _ _ _ _ _ _ _ _ _ _ _ _ _ _ _ _ _ _ _ _ _ _ _ _ _ _ _ _ _ _ _ _ _ _ _ _ _ _ _ _ _ _ _ _ _ _ _ _ _ _ _ _ _ _ _ _ _ _ _ _ _ _ _ _ _ _ _ _ _ _ _ _ _ _ _ _ _ _ _ _ _ _ _ _ _ _ _ _ _ _ _ _ _ _ _ _ _ _ _ _ _ _ _ _ _ _ _ _ _ _ _ _ _ _ _ _ _ _ _ _ _ _ _ _ _ _ _ _ _ _ _ _ _ _ _ _ _ _ _ _ _ _ _ _ _ _ _ _ _ _ _ _ _ _ _ _ _ _ _ _ _ _ _ _ _ _ _ _ _ _ _ _ _ _ _ _ _ _ _ _ _ _ _ _ _ _ _ _ _ _ _ _ _ _ _ _ _ _ _ _ _ _ _ _ _ _ _ _ _ _ _ _ _ _ _ _ _ _ _ _ _ _ _ _ (by kernel_rfl) HF.out.ns HF.out.hh hn p3 (by omega) (upd_same _ _ _) HF.out.rh ?_
          intro z116 z117 z118 z119 z120 z121 z122 z123 z124 z125 z126 z127 z128 z129 z130 z131 z132 z133 z134 q
          go_wp2_with fail
          go_roundw
          case rel => exact ⟨t + 1, (cnt + 1), cnt, _, _, m1, by omega, by go_num, by go_num, rfl, HF.out.drewN q⟩
          case measure => simp [intOf]; omega
      · rw [hmk] at dm
        clear r2s dhs fhs
        cases inn
        · have HF : Hid (L2 w w1 Bs Bm Bh Bg lo n ga gc (t + 1) cnt cnt (upd met k true) (heldTo held k false) m1) :=
            l2_next HL.out p3 HN1.out.1 HN1.out.2.1 (by omega) (by have g := HN1.out.2.2.1; rw [cntTo_old hmk] at g; exact g) (HN1.out.2.2.2.1.congr fun j _ => by rw [upd_id hmk]) (HN1.out.2.2.2.2.1.congr fun j _ => by rw [heldTo_false]) HN1.out.2.2.2.2.2.1 HN1.out.2.2.2.2.2.2.1 HN1.out.2.2.2.2.2.2.2
          clear HN1
          go_upto_region 31 with fail
          refine reg31 w1 Bs Bh lo n cnt k (upd met k true) (heldTo held k false) m1 _ _ _ _ _ _ _ _ _ _ _ _ _ _ _ _ _ _ _ _ _ _ _ _ _ _ _ _ _ _ _ _ _ _ _ _ _ _ _ _ _ _ _ _ _ _ _ _ _ _ _ _ _ _ _ _ _ _ _ _ _ _ _ _ _ _ _ _ _ _ _ _ _ _ _ _ _ _ _ _ _ _ _ _ _ _ _ _ _ _ _ _ _ _ _ _ _ _ _ _ _ _ _ _ _ _ _ _ _ _ _ _ _ _ _ _ _ _ _ _ _ _ _ _ _ _ _ _ _ _ _ _ _ _ _ _ _ _ _ _ _ _ _ _ _ _ _ _ _ _ _ _ _ _ _ _ _ _ _ _ _ _ _ _ _ _ _ _ _ _ _ _ _ _ _ _ _ _ _ _ _ _ _ _ _ _ _ _ _ _ _ _ _ _ _ _ _ _ _ _ _ _ _ _ _ _ _ _ _ _ _ _ _ _ _ _ _ _ _ _ _ _ _ _ _ _ _ _ _ _ _ _ _ _ _ _ _ _ _ _ _ _ _ _ _ _ _ _ _ _ (by kernel_rfl) HF.out.ns HF.out.hh hn p3 (by omega) (upd_same _ _ _) HF.out.rh ?_
          intro z116 z117 z118 z119 z120 z121 z122 z123 z124 z125 z126 z127 z128 z129 z130 z131 z132 z133 z134 q
          go_wp2_with fail
          go_roundw
          case rel => exact ⟨t + 1, cnt, cnt, _, _, m1, by omega, by go_num, rfl, rfl, HF.out.drewN q⟩
          case measure => simp [intOf]; omega
        · have HF : Hid (L2 w (w1.setCell ⟨Bh, k, none⟩ (.bool true)) Bs Bm Bh Bg lo n ga gc (t + 1) cnt cnt (upd met k true) (heldTo held k true) m1) :=
            l2_next HL.out p3 HN1.out.1 HN1.out.2.1 (by omega) (ns_set (by have g := HN1.out.2.2.1; rw [cntTo_old hmk] at g; exact g) (a := ⟨Bh, k, none⟩) w11' w7' (.bool true)) ((HN1.out.2.2.2.1.congr fun j _ => by rw [upd_id hmk]).setOther (a := ⟨Bh, k, none⟩) (by show Bm ≠ Bh; omega) (.bool true)) (by rw [heldTo_true]; exact row_upd HN1.out.2.2.2.2.1 k true) ((World.cell?_of_block (Below.heap_setCell _ ⟨Bh, k, none⟩ (.bool true) Bg (by show Bg ≠ Bh; omega))).trans HN1.out.2.2.2.2.2.1) (HN1.out.2.2.2.2.2.2.1.setCell (p := ⟨Bh, k, none⟩) w3' (.bool true)) (by simp; exact HN1.out.2.2.2.2.2.2.2)
          clear HN1
          go_upto_region 31 with fail
          refine reg31 (w1.setCell ⟨Bh, k, none⟩ (.bool true)) Bs Bh lo n cnt k (upd met k true) (heldTo held k true) m1 _ _ _ _ _ _ _ _ _ _ _ _ _ _ _ _ _ _ _ _ _ _ _ _ _ _ _ _ _ _ _ _ _ _ _ _ _ _ _ _ _ _ _ _ _ _ _ _ _ _ _ _ _ _ _ _ _ _ _ _ _ _ _ _ _ _ _ _ _ _ _ _ _ _ _ _ _ _ _ _ _ _ _ _ _ _ _ _ _ _ _ _ _ _ _ _ _ _ _ _ _ _ _ _ _ _ _ _ _ _ _ _ _ _ _ _ _ _ _ _ _ _ _ _ _ _ _ _ _ _ _ _ _ _ _ _ _ _ _ _ _ _ _ _ _ _ _ _ _ _ _ _ _ _ _ _ _ _ _ _ _ _ _ _ _ _ _ _ _ _ _ _ _ _ _ _ _ _ _ _ _ _ _ _ _ _ _ _ _ _ _ _ _ _ _ _ _ _ _ _ _ _ _ _ _ _ _ _ _ _ _ _ _ _ _ _ _ _ _ _ _ _ _ _ _ _ _ _ _ _ _ _ _ _ _ _ _ _ _ _ _ _ _ _ _ _ _ _ _ _ (by kernel_rfl) HF.out.ns HF.out.hh hn p3 (by omega) (upd_same _ _ _) HF.out.rh ?_
          intro z116 z117 z118 z119 z120 z121 z122 z123 z124 z125 z126 z127 z128 z129 z130 z131 z132 z133 z134 q
          go_wp2_with fail
          go_roundw
          case rel => exact ⟨t + 1, cnt, cnt, _, _, m1, by omega, by go_num, rfl, rfl, HF.out.drewN q⟩
          case measure => simp [intOf]; omega
    · obtain rfl : t = m := by omega
      go_wp2_with fail
      exact HX.out _ _ _ _ _ _ _ _ _ _ _ _ _ _ _ _ _ _ _ _ _ _ _ _ _ _ _ _ _ _ _ _ _ _ _ _ _ _ _ _ _ _ _ _ _ _ _ _ _ _ _ _ _ _ _ _ _ _ _ _ _ _ _ _ _ _ _ HL.out

end Go.Proofs.Qxb6619590a

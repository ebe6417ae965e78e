/-
  Seat b6619576aF: the law's main round, the 'if' on a change block: the arm that changes the commitment.
-/
import Derived.Test.Qxb6619576aFmtPartsBase
namespace Go.Proofs.Qxb6619576aFmt
open Go.RowKit
set_option linter.unusedSimpArgs false
set_option linter.unusedVariables false
attribute [local go_sem] run_store_float

set_option maxRecDepth 1000000 in
set_option maxHeartbeats 8000000 in
theorem if_change (tol rise target : Nat) (win : Nat) (every : Int) (k m R j : Nat) (L : List Blk) (z1 : Nat → Nat) (c hh d : Nat) (w1 : World) (K : Act → World → Prop) (Q' : Exit → Act → World → Prop)
    (c0 c1 c4 c5 c6 c7 c8 c9 c10 c11 c12 c13 c14 c15 c16 c17 c19 c20 c21 c23 c24 c25 c27 c28 c29 c30 c31 c32 c33 c34 c35 c36 c37 c38 c39 c40 c41 c42 c43 c44 c45 c46 c47 c48 c49 c50 c51 c52 c53 c54 c55 c56 c57 c58 c59 c60 c61 c62 c63 c64 c65 c66 c67 c68 c69 c70 c71 c72 c73 c74 c75 c76 c77 c78 c79 c80 c81 c82 c83 c84 c85 c86 c87 c88 c89 c90 c91 c92 c93 c94 c95 c96 c97 c98 c99 c100 c101 c102 c103 c104 c105 c106 c107 c108 c109 c110 c111 c112 c113 c114 c115 c116 c117 c118 c119 c120 c121 c122 c123 c124 c125 c126 c127 c128 c129 c130 c131 c132 c133 c134 c135 c136 c137 c138 c139 c140 c141 c142 c143 c144 c145 c146 c147 c148 c149 c150 c151 c152 c153 c154 c155 c156 c157 c158 c159 c160 c161 c162 c163 c164 c165 c166 c167 c168 c169 c170 c171 c172 c173 c174 c175 c176 c177 c178 c179 c180 c181 c182 c183 c184 c185 c186 c187 c188 c189 c190 c191 c192 c193 c194 c195 c196 c197 c198 c199 c200 c201 c202 c203 c204 c205 c206 c207 c208 c209 c210 c211 c213 c214 c215 c216 c217 c218 c219 c220 c221 c222 c223 c224 c225 c226 c227 c228 c229 c230 c231 c232 c233 c234 c235 c236 c237 c238 c239 c240 c241 c242 c243 c244 c245 c246 c247 c248 c249 c250 c251 c252 c253 c254 c255 c256 c257 c258 c259 c260 c261 c262 c263 c264 c265 c266 c267 c268 c269 c270 c271 c272 c273 c274 c275 c276 c277 c278 c279 c280 c281 c282 c283 c284 c285 c286 c287 c288 c289 c290 c291 c292 c293 c294 c295 c296 c297 c298 c299 c300 c301 c302 c303 c304 c305 c306 c307 c308 c309 c310 c311 c312 c313 c314 c315 c316 c317 c318 c319 : Value) (code : Code) (hcode : code = ((Tryf.f3.body.map (condAt 212)).bind (·[0]?)).getD .skip)
    (hn4 : k ≤ 4096) (hm4 : m ≤ 4096) (he1 : 1 ≤ every) (hw1' : 1 ≤ (win : Int)) (hwn : (win : Int) ≤ k) (hj : j ≤ m) (hlt : j < m) (hltG : R + 1 < w1.heap.size)
    (hPA : PastIs w1 (R + 1) (k + j) (fun i => blkAt L i)) (hPL : ∀ t, t < k + j → 0 < (blkAt L t).comm ∧ (blkAt L t).comm ≤ Fl.INF) (hCO : 0 < c ∧ c ≤ Fl.INF)
    (hCQ : commOut rise (z1 j) win every ((j : Int) + 1) (k + j) (fun t => (blkAt L t).comm) = c) (hPS : Pos (z1 j)) (hRR : Fl.ONE ≤ rise ∧ rise ≤ Fl.INF) (hmod : (j : Int) % every = 0)
    (hK : ∀ (u14 u27 u28 u212 u213 u214 u215 u216 u217 u218 u219 u220 u221 u222 u223 u224 u225 u226 u227 u228 u229 u230 u231 u232 u233 u234 u235 u236 u237 u238 u239 u240 u241 u242 u243 u244 u245 u246 u247 u248 u249 u250 u251 u252 u253 u254 u255 u256 u257 u258 u259 u260 u261 u262 u263 u264 u265 u266 u267 u268 u269 : Value), K ⟨(List.toArray ((c0 : Value) :: (c1 : Value) :: (.int .i64 win : Value) :: (.int .i64 every : Value) :: (c4 : Value) :: (c5 : Value) :: (c6 : Value) :: (c7 : Value) :: (c8 : Value) :: (c9 : Value) :: (c10 : Value) :: (c11 : Value) :: (c12 : Value) :: (c13 : Value) :: (u14 : Value) :: (c15 : Value) :: (c16 : Value) :: (c17 : Value) :: (.slice (some ⟨R + 1, 0, none⟩) (k + j) (k + m) : Value) :: (c19 : Value) :: (c20 : Value) :: (c21 : Value) :: (.float .f64 (z1 j) : Value) :: (c23 : Value) :: (c24 : Value) :: (c25 : Value) :: (.float .f64 c : Value) :: (u27 : Value) :: (u28 : Value) :: (c29 : Value) :: (c30 : Value) :: (c31 : Value) :: (c32 : Value) :: (c33 : Value) :: (c34 : Value) :: (c35 : Value) :: (c36 : Value) :: (c37 : Value) :: (c38 : Value) :: (c39 : Value) :: (c40 : Value) :: (c41 : Value) :: (c42 : Value) :: (c43 : Value) :: (c44 : Value) :: (c45 : Value) :: (c46 : Value) :: (c47 : Value) :: (c48 : Value) :: (c49 : Value) :: (c50 : Value) :: (c51 : Value) :: (c52 : Value) :: (c53 : Value) :: (c54 : Value) :: (c55 : Value) :: (c56 : Value) :: (c57 : Value) :: (c58 : Value) :: (c59 : Value) :: (c60 : Value) :: (c61 : Value) :: (c62 : Value) :: (c63 : Value) :: (c64 : Value) :: (c65 : Value) :: (c66 : Value) :: (c67 : Value) :: (c68 : Value) :: (c69 : Value) :: (c70 : Value) :: (c71 : Value) :: (c72 : Value) :: (c73 : Value) :: (c74 : Value) :: (c75 : Value) :: (c76 : Value) :: (c77 : Value) :: (c78 : Value) :: (c79 : Value) :: (c80 : Value) :: (c81 : Value) :: (c82 : Value) :: (c83 : Value) :: (c84 : Value) :: (c85 : Value) :: (c86 : Value) :: (c87 : Value) :: (c88 : Value) :: (c89 : Value) :: (c90 : Value) :: (c91 : Value) :: (c92 : Value) :: (c93 : Value) :: (c94 : Value) :: (c95 : Value) :: (c96 : Value) :: (c97 : Value) :: (c98 : Value) :: (c99 : Value) :: (c100 : Value) :: (c101 : Value) :: (c102 : Value) :: (c103 : Value) :: (c104 : Value) :: (c105 : Value) :: (c106 : Value) :: (c107 : Value) :: (c108 : Value) :: (c109 : Value) :: (c110 : Value) :: (c111 : Value) :: (c112 : Value) :: (c113 : Value) :: (c114 : Value) :: (c115 : Value) :: (c116 : Value) :: (c117 : Value) :: (c118 : Value) :: (c119 : Value) :: (c120 : Value) :: (c121 : Value) :: (c122 : Value) :: (c123 : Value) :: (c124 : Value) :: (c125 : Value) :: (c126 : Value) :: (c127 : Value) :: (c128 : Value) :: (c129 : Value) :: (c130 : Value) :: (c131 : Value) :: (c132 : Value) :: (c133 : Value) :: (c134 : Value) :: (c135 : Value) :: (c136 : Value) :: (c137 : Value) :: (c138 : Value) :: (c139 : Value) :: (c140 : Value) :: (c141 : Value) :: (c142 : Value) :: (c143 : Value) :: (c144 : Value) :: (c145 : Value) :: (c146 : Value) :: (c147 : Value) :: (c148 : Value) :: (c149 : Value) :: (c150 : Value) :: (c151 : Value) :: (c152 : Value) :: (c153 : Value) :: (c154 : Value) :: (c155 : Value) :: (c156 : Value) :: (c157 : Value) :: (c158 : Value) :: (c159 : Value) :: (c160 : Value) :: (c161 : Value) :: (c162 : Value) :: (c163 : Value) :: (c164 : Value) :: (c165 : Value) :: (c166 : Value) :: (c167 : Value) :: (c168 : Value) :: (c169 : Value) :: (c170 : Value) :: (c171 : Value) :: (c172 : Value) :: (c173 : Value) :: (c174 : Value) :: (c175 : Value) :: (c176 : Value) :: (c177 : Value) :: (c178 : Value) :: (c179 : Value) :: (c180 : Value) :: (c181 : Value) :: (c182 : Value) :: (c183 : Value) :: (c184 : Value) :: (c185 : Value) :: (c186 : Value) :: (c187 : Value) :: (c188 : Value) :: (c189 : Value) :: (c190 : Value) :: (c191 : Value) :: (c192 : Value) :: (c193 : Value) :: (c194 : Value) :: (c195 : Value) :: (c196 : Value) :: (c197 : Value) :: (c198 : Value) :: (c199 : Value) :: (c200 : Value) :: (c201 : Value) :: (c202 : Value) :: (c203 : Value) :: (c204 : Value) :: (c205 : Value) :: (c206 : Value) :: (c207 : Value) :: (c208 : Value) :: (c209 : Value) :: (c210 : Value) :: (c211 : Value) :: (u212 : Value) :: (u213 : Value) :: (u214 : Value) :: (u215 : Value) :: (u216 : Value) :: (u217 : Value) :: (u218 : Value) :: (u219 : Value) :: (u220 : Value) :: (u221 : Value) :: (u222 : Value) :: (u223 : Value) :: (u224 : Value) :: (u225 : Value) :: (u226 : Value) :: (u227 : Value) :: (u228 : Value) :: (u229 : Value) :: (u230 : Value) :: (u231 : Value) :: (u232 : Value) :: (u233 : Value) :: (u234 : Value) :: (u235 : Value) :: (u236 : Value) :: (u237 : Value) :: (u238 : Value) :: (u239 : Value) :: (u240 : Value) :: (u241 : Value) :: (u242 : Value) :: (u243 : Value) :: (u244 : Value) :: (u245 : Value) :: (u246 : Value) :: (u247 : Value) :: (u248 : Value) :: (u249 : Value) :: (u250 : Value) :: (u251 : Value) :: (u252 : Value) :: (u253 : Value) :: (u254 : Value) :: (u255 : Value) :: (u256 : Value) :: (u257 : Value) :: (u258 : Value) :: (u259 : Value) :: (u260 : Value) :: (u261 : Value) :: (u262 : Value) :: (u263 : Value) :: (u264 : Value) :: (u265 : Value) :: (u266 : Value) :: (u267 : Value) :: (u268 : Value) :: (u269 : Value) :: (c270 : Value) :: (c271 : Value) :: (c272 : Value) :: (c273 : Value) :: (c274 : Value) :: (c275 : Value) :: (c276 : Value) :: (c277 : Value) :: (c278 : Value) :: (c279 : Value) :: (c280 : Value) :: (c281 : Value) :: (c282 : Value) :: (c283 : Value) :: (c284 : Value) :: (c285 : Value) :: (c286 : Value) :: (c287 : Value) :: (c288 : Value) :: (c289 : Value) :: (c290 : Value) :: (c291 : Value) :: (c292 : Value) :: (c293 : Value) :: (c294 : Value) :: (c295 : Value) :: (c296 : Value) :: (c297 : Value) :: (c298 : Value) :: (c299 : Value) :: (c300 : Value) :: (c301 : Value) :: (c302 : Value) :: (c303 : Value) :: (c304 : Value) :: (c305 : Value) :: (c306 : Value) :: (c307 : Value) :: (c308 : Value) :: (c309 : Value) :: (c310 : Value) :: (c311 : Value) :: (c312 : Value) :: (c313 : Value) :: (c314 : Value) :: (c315 : Value) :: (c316 : Value) :: (c317 : Value) :: (c318 : Value) :: (c319 : Value) :: [])), []⟩ (w1.alloc (.cells #[.int .i64 ((j : Int) + 1), .float .f64 (floatOfInt .f64 (j : Int)), .float .f64 (z1 j), .float .f64 hh, .float .f64 c, .float .f64 d, .float .f64 4619567317775286272] 32))) :
    Code.wp Tryf.prog code (Exit.then K Q') ⟨(List.toArray ((c0 : Value) :: (c1 : Value) :: (.int .i64 win : Value) :: (.int .i64 every : Value) :: (c4 : Value) :: (c5 : Value) :: (c6 : Value) :: (c7 : Value) :: (c8 : Value) :: (c9 : Value) :: (c10 : Value) :: (c11 : Value) :: (c12 : Value) :: (c13 : Value) :: (c14 : Value) :: (c15 : Value) :: (c16 : Value) :: (c17 : Value) :: (.slice (some ⟨R + 1, 0, none⟩) (k + j) (k + m) : Value) :: (c19 : Value) :: (c20 : Value) :: (c21 : Value) :: (.float .f64 (z1 j) : Value) :: (c23 : Value) :: (c24 : Value) :: (c25 : Value) :: (.float .f64 c : Value) :: (c27 : Value) :: (c28 : Value) :: (c29 : Value) :: (c30 : Value) :: (c31 : Value) :: (c32 : Value) :: (c33 : Value) :: (c34 : Value) :: (c35 : Value) :: (c36 : Value) :: (c37 : Value) :: (c38 : Value) :: (c39 : Value) :: (c40 : Value) :: (c41 : Value) :: (c42 : Value) :: (c43 : Value) :: (c44 : Value) :: (c45 : Value) :: (c46 : Value) :: (c47 : Value) :: (c48 : Value) :: (c49 : Value) :: (c50 : Value) :: (c51 : Value) :: (c52 : Value) :: (c53 : Value) :: (c54 : Value) :: (c55 : Value) :: (c56 : Value) :: (c57 : Value) :: (c58 : Value) :: (c59 : Value) :: (c60 : Value) :: (c61 : Value) :: (c62 : Value) :: (c63 : Value) :: (c64 : Value) :: (c65 : Value) :: (c66 : Value) :: (c67 : Value) :: (c68 : Value) :: (c69 : Value) :: (c70 : Value) :: (c71 : Value) :: (c72 : Value) :: (c73 : Value) :: (c74 : Value) :: (c75 : Value) :: (c76 : Value) :: (c77 : Value) :: (c78 : Value) :: (c79 : Value) :: (c80 : Value) :: (c81 : Value) :: (c82 : Value) :: (c83 : Value) :: (c84 : Value) :: (c85 : Value) :: (c86 : Value) :: (c87 : Value) :: (c88 : Value) :: (c89 : Value) :: (c90 : Value) :: (c91 : Value) :: (c92 : Value) :: (c93 : Value) :: (c94 : Value) :: (c95 : Value) :: (c96 : Value) :: (c97 : Value) :: (c98 : Value) :: (c99 : Value) :: (c100 : Value) :: (c101 : Value) :: (c102 : Value) :: (c103 : Value) :: (c104 : Value) :: (c105 : Value) :: (c106 : Value) :: (c107 : Value) :: (c108 : Value) :: (c109 : Value) :: (c110 : Value) :: (c111 : Value) :: (c112 : Value) :: (c113 : Value) :: (c114 : Value) :: (c115 : Value) :: (c116 : Value) :: (c117 : Value) :: (c118 : Value) :: (c119 : Value) :: (c120 : Value) :: (c121 : Value) :: (c122 : Value) :: (c123 : Value) :: (c124 : Value) :: (c125 : Value) :: (c126 : Value) :: (c127 : Value) :: (c128 : Value) :: (c129 : Value) :: (c130 : Value) :: (c131 : Value) :: (c132 : Value) :: (c133 : Value) :: (c134 : Value) :: (c135 : Value) :: (c136 : Value) :: (c137 : Value) :: (c138 : Value) :: (c139 : Value) :: (c140 : Value) :: (c141 : Value) :: (c142 : Value) :: (c143 : Value) :: (c144 : Value) :: (c145 : Value) :: (c146 : Value) :: (c147 : Value) :: (c148 : Value) :: (c149 : Value) :: (c150 : Value) :: (c151 : Value) :: (c152 : Value) :: (c153 : Value) :: (c154 : Value) :: (c155 : Value) :: (c156 : Value) :: (c157 : Value) :: (c158 : Value) :: (c159 : Value) :: (c160 : Value) :: (c161 : Value) :: (c162 : Value) :: (c163 : Value) :: (c164 : Value) :: (c165 : Value) :: (c166 : Value) :: (c167 : Value) :: (c168 : Value) :: (c169 : Value) :: (c170 : Value) :: (c171 : Value) :: (c172 : Value) :: (c173 : Value) :: (c174 : Value) :: (c175 : Value) :: (c176 : Value) :: (c177 : Value) :: (c178 : Value) :: (c179 : Value) :: (c180 : Value) :: (c181 : Value) :: (c182 : Value) :: (c183 : Value) :: (c184 : Value) :: (c185 : Value) :: (c186 : Value) :: (c187 : Value) :: (c188 : Value) :: (c189 : Value) :: (c190 : Value) :: (c191 : Value) :: (c192 : Value) :: (c193 : Value) :: (c194 : Value) :: (c195 : Value) :: (c196 : Value) :: (c197 : Value) :: (c198 : Value) :: (c199 : Value) :: (c200 : Value) :: (c201 : Value) :: (c202 : Value) :: (c203 : Value) :: (c204 : Value) :: (c205 : Value) :: (c206 : Value) :: (c207 : Value) :: (c208 : Value) :: (c209 : Value) :: (c210 : Value) :: (c211 : Value) :: (.bool ((j : Int) % every != 0) : Value) :: (c213 : Value) :: (c214 : Value) :: (c215 : Value) :: (c216 : Value) :: (c217 : Value) :: (c218 : Value) :: (c219 : Value) :: (c220 : Value) :: (c221 : Value) :: (c222 : Value) :: (c223 : Value) :: (c224 : Value) :: (c225 : Value) :: (c226 : Value) :: (c227 : Value) :: (c228 : Value) :: (c229 : Value) :: (c230 : Value) :: (c231 : Value) :: (c232 : Value) :: (c233 : Value) :: (c234 : Value) :: (c235 : Value) :: (c236 : Value) :: (c237 : Value) :: (c238 : Value) :: (c239 : Value) :: (c240 : Value) :: (c241 : Value) :: (c242 : Value) :: (c243 : Value) :: (c244 : Value) :: (c245 : Value) :: (c246 : Value) :: (c247 : Value) :: (c248 : Value) :: (c249 : Value) :: (c250 : Value) :: (c251 : Value) :: (c252 : Value) :: (c253 : Value) :: (c254 : Value) :: (c255 : Value) :: (c256 : Value) :: (c257 : Value) :: (c258 : Value) :: (c259 : Value) :: (c260 : Value) :: (c261 : Value) :: (c262 : Value) :: (c263 : Value) :: (c264 : Value) :: (c265 : Value) :: (c266 : Value) :: (c267 : Value) :: (c268 : Value) :: (c269 : Value) :: (c270 : Value) :: (c271 : Value) :: (c272 : Value) :: (c273 : Value) :: (c274 : Value) :: (c275 : Value) :: (c276 : Value) :: (c277 : Value) :: (c278 : Value) :: (c279 : Value) :: (c280 : Value) :: (c281 : Value) :: (c282 : Value) :: (c283 : Value) :: (c284 : Value) :: (c285 : Value) :: (c286 : Value) :: (c287 : Value) :: (c288 : Value) :: (c289 : Value) :: (c290 : Value) :: (c291 : Value) :: (c292 : Value) :: (c293 : Value) :: (c294 : Value) :: (c295 : Value) :: (c296 : Value) :: (c297 : Value) :: (c298 : Value) :: (c299 : Value) :: (c300 : Value) :: (c301 : Value) :: (c302 : Value) :: (c303 : Value) :: (c304 : Value) :: (c305 : Value) :: (c306 : Value) :: (c307 : Value) :: (c308 : Value) :: (c309 : Value) :: (c310 : Value) :: (c311 : Value) :: (c312 : Value) :: (c313 : Value) :: (c314 : Value) :: (c315 : Value) :: (c316 : Value) :: (c317 : Value) :: (c318 : Value) :: (c319 : Value) :: [])), []⟩ (w1.alloc (.cells #[.int .i64 ((j : Int) + 1), .float .f64 (floatOfInt .f64 (j : Int)), .float .f64 (z1 j), .float .f64 hh, .float .f64 c, .float .f64 d, .float .f64 4619567317775286272] 32)) := by
  subst hcode
  conv => arg 2; whnf
  have HK := hide hK
  clear hK
  have hb : k + m ≤ 1048576 := by omega
  have HPA := hide hPA
  have HPL := hide hPL
  have HCO := hide hCO
  have HCQ := hide hCQ
  have HPS := hide hPS
  have HRR := hide hRR
  clear hPA hPL hCO hCQ hPS hRR
  have hm : ((j : Int) % every != 0) = false := by simp [hmod]
  have hcc : c = Fl.commW rise (z1 j) (part (fun t => (blkAt L t).comm) (k + j - win) win) win := by
    rw [← HCQ.out]; unfold commOut; rw [if_pos (by rw [Int.add_sub_cancel]; exact hmod)]
  have HCC := hide hcc
  clear hmod hcc
  rw [hm]
  have hcell := (HPA.out (k + j - win) (by omega)).2.2.2.2.1
  go_wp2_with fail
  go_loop [27, 28] (fun u v => ∃ i l : Nat, k + j - win + 1 ≤ i ∧ i ≤ k + j ∧ v = .int .i64 i ∧ u = .float .f64 l ∧ Pos l ∧ ∀ t, k + j - win ≤ t → t < i → l ≤ (blkAt L t).comm) (fun _ v => k + j - (intOf v).toNat)
  case atStart =>
    refine ⟨k + j - win + 1, _, Nat.le_refl _, by omega, ?_, rfl, HPL.out (k + j - win) (by omega), fun t h1 h2 => ?_⟩
    · exact congrArg (Value.int .i64) (by omega)
    · obtain rfl : t = k + j - win := by omega
      exact Nat.le_refl _
  case round =>
    obtain ⟨i, l, hi1, hi2, rfl, rfl, hl, hall⟩ := hrel
    have HLL := hide (And.intro hl hall)
    clear hl hall hcell
    by_cases hil : i < k + j
    · have hcell := (HPA.out i hil).2.2.2.2.1
      have hpi := HPL.out i hil
      by_cases hpl : (blkAt L i).comm < l
      · have ho : FloatKind.f64.format.order (blkAt L i).comm l = some .lt := o_lt hpl HLL.out.1.2
        have HPP := hide (And.intro hpi hpl)
        clear hpi hpl
        go_wp2_with fail
        go_round
        case rel =>
          refine ⟨i + 1, _, by omega, by omega, by go_num, rfl, HPP.out.1, fun t h1 h2 => ?_⟩
          by_cases e : t = i
          · subst e; exact Nat.le_refl _
          · exact Nat.le_trans (Nat.le_of_lt HPP.out.2) (HLL.out.2 t h1 (by omega))
        case measure => simp [intOf]; omega
      · have ho := b_nlt (show l ≤ (blkAt L i).comm by omega) hpi.2
        have HPP := hide (And.intro hpi hpl)
        clear hpi hpl
        go_wp2_with fail
        go_round
        case rel =>
          refine ⟨i + 1, l, by omega, by omega, by go_num, rfl, HLL.out.1, fun t h1 h2 => ?_⟩
          by_cases e : t = i
          · subst e; have := HPP.out.2; omega
          · exact HLL.out.2 t h1 (by omega)
        case measure => simp [intOf]; omega
    · have hab := part_above (fun t => (blkAt L t).comm) (k + j - win) win l (fun t ht => ⟨HLL.out.2 (k + j - win + t) (by omega) (by omega), (HPL.out (k + j - win + t) (by omega)).2⟩)
      obtain ⟨-, -, -, q4, q5⟩ := Fl.comm_ok rise (z1 j) _ l win (part_length _ _ _) (by omega) (by omega) HLL.out.1.1 hab HRR.out.1 HRR.out.2 HPS.out.1
      rw [← HCC.out] at q4 q5
      obtain ⟨d1, d2⟩ := half_ok HLL.out.1.1 HLL.out.1.2
      have hdiv := fun (wy : World) => run_float_arith (P := Tryf.prog) wy .quo 22 .f64 l 4611686018427387904 _ d1
      have oC0 : FloatKind.f64.format.order c 0 = some .gt := o_gt HCO.out.1 HCO.out.2
      have oCS := b_le q4 HPS.out.2
      by_cases hsh : z1 j ≤ Fl.divW l Fl.TWO
      · have oSH := b_le hsh d2
        have oCC : FloatKind.f64.format.order c (z1 j) = some .eq := by rw [q5 hsh]; exact o_eq HPS.out.2
        generalize Fl.divW l Fl.TWO = h2 at *
        clear q4 q5 d1 d2 hab hsh
        go_wp2_with fail
        exact HK.out _ _ _ _ _ _ _ _ _ _ _ _ _ _ _ _ _ _ _ _ _ _ _ _ _ _ _ _ _ _ _ _ _ _ _ _ _ _ _ _ _ _ _ _ _ _ _ _ _ _ _ _ _ _ _ _ _ _ _ _ _
      · have oSH := b_nle (show Fl.divW l Fl.TWO < z1 j by omega) HPS.out.2
        generalize Fl.divW l Fl.TWO = h2 at *
        clear q4 q5 d1 d2 hab hsh
        go_wp2_with fail
        exact HK.out _ _ _ _ _ _ _ _ _ _ _ _ _ _ _ _ _ _ _ _ _ _ _ _ _ _ _ _ _ _ _ _ _ _ _ _ _ _ _ _ _ _ _ _ _ _ _ _ _ _ _ _ _ _ _ _ _ _ _ _ _

end Go.Proofs.Qxb6619576aFmt

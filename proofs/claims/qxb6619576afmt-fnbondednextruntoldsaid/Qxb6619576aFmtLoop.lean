/-
  Seat b6619576aF: the main loop of FnBondedNextRun (3), by itself.
-/
import Derived.Test.Qxb6619576aFmtJoin
import Derived.Test.Qxb6619576aFmtDiff
namespace Go.Proofs.Qxb6619576aFmt
open Go.RowKit
set_option linter.unusedSimpArgs false
set_option linter.unusedVariables false
attribute [local go_sem] run_store_float

theorem owns_drewN {w : World} {base g n cap : Nat} {xs : List Value} (h : w.ownsRow base 32 7 (.slice (some ⟨g, 0, none⟩) n cap) n xs) (q : Nat) : (w.drewN q).ownsRow base 32 7 (.slice (some ⟨g, 0, none⟩) n cap) n xs := h

set_option maxRecDepth 1000000 in
set_option maxHeartbeats 8000000 in
theorem loop4 (tol rise target : Nat) (win : Nat) (every : Int) (k m c2 S R : Nat) (a2 : Option Addr) (z1 : Nat → Nat) (wR w0 : World) (j0 : Nat) (v0 : Value) (Q0 : Exit → Act → World → Prop)
    (c1 c4 c7 c8 c9 c10 c11 c12 c13 c14 c15 c16 c19 c21 c22 c23 c24 c25 c26 c27 c28 c29 c30 c31 c32 c33 c34 c35 c36 c37 c38 c39 c40 c41 c42 c43 c44 c45 c46 c47 c48 c49 c50 c51 c52 c53 c54 c55 c56 c57 c58 c59 c60 c61 c62 c63 c64 c65 c66 c67 c68 c69 c70 c71 c72 c73 c74 c75 c76 c77 c78 c79 c80 c81 c82 c83 c84 c85 c86 c87 c88 c89 c90 c91 c92 c93 c94 c95 c96 c97 c98 c99 c100 c101 c102 c103 c104 c105 c106 c107 c108 c109 c110 c111 c112 c113 c114 c115 c116 c117 c118 c119 c120 c121 c122 c123 c124 c125 c126 c127 c128 c129 c130 c131 c132 c133 c134 c135 c136 c137 c138 c139 c140 c141 c142 c143 c144 c145 c146 c147 c148 c149 c150 c151 c152 c153 c154 c155 c156 c157 c158 c159 c160 c161 c162 c163 c164 c165 c166 c167 c168 c169 c170 c171 c172 c173 c174 c175 c176 c177 c178 c179 c180 c181 c182 c183 c184 c185 c186 c187 c188 c189 c190 c191 c192 c193 c194 c195 c196 c197 c198 c199 c200 c201 c202 c203 c204 c205 c206 c207 c208 c209 c210 c211 c212 c213 c214 c215 c216 c217 c218 c219 c220 c221 c222 c223 c224 c225 c226 c227 c228 c229 c230 c231 c232 c233 c234 c235 c236 c237 c238 c239 c240 c241 c242 c243 c244 c245 c246 c247 c248 c249 c250 c251 c252 c253 c254 c255 c256 c257 c258 c259 c260 c261 c262 c263 c264 c265 c266 c267 c268 c269 c270 c271 c272 c273 c274 c275 c276 c277 c278 c279 c280 c281 c282 c283 c284 c285 c286 c287 c288 c289 c290 c291 c292 c293 c294 c295 c296 c297 c298 c299 c300 c301 c302 c303 c304 c305 c306 c307 c308 c309 c310 c311 c312 c313 c314 c315 c316 c317 c318 c319 : Value) (body : Code) (hbody : body = (((Tryf.f3.body.map allLoops).bind (·[3]?)).getD .skip))
    (hg : Good tol rise win every k m) (htl : tol < 18446744073709551616) (hrl : rise < 18446744073709551616) (hP1 : ∀ j, j < m → Pos (z1 j))
    (hRC : ∀ o, wR.cell? ⟨R, o, none⟩ = #[Value.float .f64 tol, .float .f64 rise, .int .i64 win, .int .i64 every][o]?)
    (hRB : 0 < m → a2 = some ⟨S, 0, none⟩ ∧ wR.rowIs S 22 m (fun j => .float .f64 (z1 j)) ∧ S < R + 1)
    (hj0 : j0 ≤ m) (hv0 : v0 = .slice (some ⟨R + 1, 0, none⟩) (k + j0) (k + m)) (hb0 : Below (R + 1) wR w0)
    (hL0 : ∃ L : List Blk, L.length = k + j0 ∧ (∀ b ∈ L, Pos b.comm) ∧ w0.ownsRow (R + 1) 32 7 (.slice (some ⟨R + 1, 0, none⟩) (k + j0) (k + m)) (k + j0) (flat L))
    (hexit : ∀ (u14 u18 u20 u21 u22 u23 u24 u25 u26 u27 u28 u29 u30 u157 u158 u159 u160 u161 u162 u163 u164 u165 u166 u167 u168 u169 u170 u171 u172 u173 u174 u175 u176 u177 u178 u179 u180 u181 u182 u183 u184 u185 u186 u187 u188 u189 u190 u191 u192 u193 u194 u195 u196 u197 u198 u199 u200 u201 u202 u203 u204 u205 u206 u207 u208 u209 u210 u211 u212 u213 u214 u215 u216 u217 u218 u219 u220 u221 u222 u223 u224 u225 u226 u227 u228 u229 u230 u231 u232 u233 u234 u235 u236 u237 u238 u239 u240 u241 u242 u243 u244 u245 u246 u247 u248 u249 u250 u251 u252 u253 u254 u255 u256 u257 u258 u259 u260 u261 u262 u263 u264 u265 u266 u267 u268 u269 u270 u271 u272 u273 u274 u275 u276 u277 u278 u279 u280 u281 u282 u283 u284 u285 u286 u287 u288 u289 u290 u291 u292 u293 u294 u295 u296 u297 u298 u299 u300 u301 u302 u303 u304 u305 u306 u307 u308 u309 u310 u311 u312 u313 u314 u315 u316 u317 u318 u319 : Value) (wx : World), Below (R + 1) wR wx → Q0 (.exit 6) ⟨(List.toArray ((.float .f64 tol : Value) :: (c1 : Value) :: (.int .i64 win : Value) :: (.int .i64 every : Value) :: (c4 : Value) :: (.slice a2 m c2 : Value) :: (.float .f64 target : Value) :: (c7 : Value) :: (c8 : Value) :: (c9 : Value) :: (c10 : Value) :: (c11 : Value) :: (c12 : Value) :: (c13 : Value) :: (u14 : Value) :: (c15 : Value) :: (c16 : Value) :: (.pointer (some ⟨R, 0, none⟩) : Value) :: (u18 : Value) :: (c19 : Value) :: (u20 : Value) :: (u21 : Value) :: (u22 : Value) :: (u23 : Value) :: (u24 : Value) :: (u25 : Value) :: (u26 : Value) :: (u27 : Value) :: (u28 : Value) :: (u29 : Value) :: (u30 : Value) :: (c31 : Value) :: (c32 : Value) :: (c33 : Value) :: (c34 : Value) :: (c35 : Value) :: (c36 : Value) :: (c37 : Value) :: (c38 : Value) :: (c39 : Value) :: (c40 : Value) :: (c41 : Value) :: (c42 : Value) :: (c43 : Value) :: (c44 : Value) :: (c45 : Value) :: (c46 : Value) :: (c47 : Value) :: (c48 : Value) :: (c49 : Value) :: (c50 : Value) :: (c51 : Value) :: (c52 : Value) :: (c53 : Value) :: (c54 : Value) :: (c55 : Value) :: (c56 : Value) :: (c57 : Value) :: (c58 : Value) :: (c59 : Value) :: (c60 : Value) :: (c61 : Value) :: (c62 : Value) :: (c63 : Value) :: (c64 : Value) :: (c65 : Value) :: (c66 : Value) :: (c67 : Value) :: (c68 : Value) :: (c69 : Value) :: (c70 : Value) :: (c71 : Value) :: (c72 : Value) :: (c73 : Value) :: (c74 : Value) :: (c75 : Value) :: (c76 : Value) :: (c77 : Value) :: (c78 : Value) :: (c79 : Value) :: (c80 : Value) :: (c81 : Value) :: (c82 : Value) :: (c83 : Value) :: (c84 : Value) :: (c85 : Value) :: (c86 : Value) :: (c87 : Value) :: (c88 : Value) :: (c89 : Value) :: (c90 : Value) :: (c91 : Value) :: (c92 : Value) :: (c93 : Value) :: (c94 : Value) :: (c95 : Value) :: (c96 : Value) :: (c97 : Value) :: (c98 : Value) :: (c99 : Value) :: (c100 : Value) :: (c101 : Value) :: (c102 : Value) :: (c103 : Value) :: (c104 : Value) :: (c105 : Value) :: (c106 : Value) :: (c107 : Value) :: (c108 : Value) :: (c109 : Value) :: (c110 : Value) :: (c111 : Value) :: (c112 : Value) :: (c113 : Value) :: (c114 : Value) :: (c115 : Value) :: (c116 : Value) :: (c117 : Value) :: (c118 : Value) :: (c119 : Value) :: (c120 : Value) :: (c121 : Value) :: (c122 : Value) :: (c123 : Value) :: (c124 : Value) :: (c125 : Value) :: (c126 : Value) :: (c127 : Value) :: (c128 : Value) :: (c129 : Value) :: (c130 : Value) :: (c131 : Value) :: (c132 : Value) :: (c133 : Value) :: (c134 : Value) :: (c135 : Value) :: (c136 : Value) :: (c137 : Value) :: (c138 : Value) :: (c139 : Value) :: (c140 : Value) :: (c141 : Value) :: (c142 : Value) :: (c143 : Value) :: (c144 : Value) :: (c145 : Value) :: (c146 : Value) :: (c147 : Value) :: (c148 : Value) :: (c149 : Value) :: (c150 : Value) :: (c151 : Value) :: (c152 : Value) :: (c153 : Value) :: (c154 : Value) :: (c155 : Value) :: (c156 : Value) :: (u157 : Value) :: (u158 : Value) :: (u159 : Value) :: (u160 : Value) :: (u161 : Value) :: (u162 : Value) :: (u163 : Value) :: (u164 : Value) :: (u165 : Value) :: (u166 : Value) :: (u167 : Value) :: (u168 : Value) :: (u169 : Value) :: (u170 : Value) :: (u171 : Value) :: (u172 : Value) :: (u173 : Value) :: (u174 : Value) :: (u175 : Value) :: (u176 : Value) :: (u177 : Value) :: (u178 : Value) :: (u179 : Value) :: (u180 : Value) :: (u181 : Value) :: (u182 : Value) :: (u183 : Value) :: (u184 : Value) :: (u185 : Value) :: (u186 : Value) :: (u187 : Value) :: (u188 : Value) :: (u189 : Value) :: (u190 : Value) :: (u191 : Value) :: (u192 : Value) :: (u193 : Value) :: (u194 : Value) :: (u195 : Value) :: (u196 : Value) :: (u197 : Value) :: (u198 : Value) :: (u199 : Value) :: (u200 : Value) :: (u201 : Value) :: (u202 : Value) :: (u203 : Value) :: (u204 : Value) :: (u205 : Value) :: (u206 : Value) :: (u207 : Value) :: (u208 : Value) :: (u209 : Value) :: (u210 : Value) :: (u211 : Value) :: (u212 : Value) :: (u213 : Value) :: (u214 : Value) :: (u215 : Value) :: (u216 : Value) :: (u217 : Value) :: (u218 : Value) :: (u219 : Value) :: (u220 : Value) :: (u221 : Value) :: (u222 : Value) :: (u223 : Value) :: (u224 : Value) :: (u225 : Value) :: (u226 : Value) :: (u227 : Value) :: (u228 : Value) :: (u229 : Value) :: (u230 : Value) :: (u231 : Value) :: (u232 : Value) :: (u233 : Value) :: (u234 : Value) :: (u235 : Value) :: (u236 : Value) :: (u237 : Value) :: (u238 : Value) :: (u239 : Value) :: (u240 : Value) :: (u241 : Value) :: (u242 : Value) :: (u243 : Value) :: (u244 : Value) :: (u245 : Value) :: (u246 : Value) :: (u247 : Value) :: (u248 : Value) :: (u249 : Value) :: (u250 : Value) :: (u251 : Value) :: (u252 : Value) :: (u253 : Value) :: (u254 : Value) :: (u255 : Value) :: (u256 : Value) :: (u257 : Value) :: (u258 : Value) :: (u259 : Value) :: (u260 : Value) :: (u261 : Value) :: (u262 : Value) :: (u263 : Value) :: (u264 : Value) :: (u265 : Value) :: (u266 : Value) :: (u267 : Value) :: (u268 : Value) :: (u269 : Value) :: (u270 : Value) :: (u271 : Value) :: (u272 : Value) :: (u273 : Value) :: (u274 : Value) :: (u275 : Value) :: (u276 : Value) :: (u277 : Value) :: (u278 : Value) :: (u279 : Value) :: (u280 : Value) :: (u281 : Value) :: (u282 : Value) :: (u283 : Value) :: (u284 : Value) :: (u285 : Value) :: (u286 : Value) :: (u287 : Value) :: (u288 : Value) :: (u289 : Value) :: (u290 : Value) :: (u291 : Value) :: (u292 : Value) :: (u293 : Value) :: (u294 : Value) :: (u295 : Value) :: (u296 : Value) :: (u297 : Value) :: (u298 : Value) :: (u299 : Value) :: (u300 : Value) :: (u301 : Value) :: (u302 : Value) :: (u303 : Value) :: (u304 : Value) :: (u305 : Value) :: (u306 : Value) :: (u307 : Value) :: (u308 : Value) :: (u309 : Value) :: (u310 : Value) :: (u311 : Value) :: (u312 : Value) :: (u313 : Value) :: (u314 : Value) :: (u315 : Value) :: (u316 : Value) :: (u317 : Value) :: (u318 : Value) :: (u319 : Value) :: [])), []⟩ wx) :
    Code.wp Tryf.prog (.loop body) Q0 ⟨(List.toArray ((.float .f64 tol : Value) :: (c1 : Value) :: (.int .i64 win : Value) :: (.int .i64 every : Value) :: (c4 : Value) :: (.slice a2 m c2 : Value) :: (.float .f64 target : Value) :: (c7 : Value) :: (c8 : Value) :: (c9 : Value) :: (c10 : Value) :: (c11 : Value) :: (c12 : Value) :: (c13 : Value) :: (c14 : Value) :: (c15 : Value) :: (c16 : Value) :: (.pointer (some ⟨R, 0, none⟩) : Value) :: (v0 : Value) :: (c19 : Value) :: (.int .i64 j0 : Value) :: (c21 : Value) :: (c22 : Value) :: (c23 : Value) :: (c24 : Value) :: (c25 : Value) :: (c26 : Value) :: (c27 : Value) :: (c28 : Value) :: (c29 : Value) :: (c30 : Value) :: (c31 : Value) :: (c32 : Value) :: (c33 : Value) :: (c34 : Value) :: (c35 : Value) :: (c36 : Value) :: (c37 : Value) :: (c38 : Value) :: (c39 : Value) :: (c40 : Value) :: (c41 : Value) :: (c42 : Value) :: (c43 : Value) :: (c44 : Value) :: (c45 : Value) :: (c46 : Value) :: (c47 : Value) :: (c48 : Value) :: (c49 : Value) :: (c50 : Value) :: (c51 : Value) :: (c52 : Value) :: (c53 : Value) :: (c54 : Value) :: (c55 : Value) :: (c56 : Value) :: (c57 : Value) :: (c58 : Value) :: (c59 : Value) :: (c60 : Value) :: (c61 : Value) :: (c62 : Value) :: (c63 : Value) :: (c64 : Value) :: (c65 : Value) :: (c66 : Value) :: (c67 : Value) :: (c68 : Value) :: (c69 : Value) :: (c70 : Value) :: (c71 : Value) :: (c72 : Value) :: (c73 : Value) :: (c74 : Value) :: (c75 : Value) :: (c76 : Value) :: (c77 : Value) :: (c78 : Value) :: (c79 : Value) :: (c80 : Value) :: (c81 : Value) :: (c82 : Value) :: (c83 : Value) :: (c84 : Value) :: (c85 : Value) :: (c86 : Value) :: (c87 : Value) :: (c88 : Value) :: (c89 : Value) :: (c90 : Value) :: (c91 : Value) :: (c92 : Value) :: (c93 : Value) :: (c94 : Value) :: (c95 : Value) :: (c96 : Value) :: (c97 : Value) :: (c98 : Value) :: (c99 : Value) :: (c100 : Value) :: (c101 : Value) :: (c102 : Value) :: (c103 : Value) :: (c104 : Value) :: (c105 : Value) :: (c106 : Value) :: (c107 : Value) :: (c108 : Value) :: (c109 : Value) :: (c110 : Value) :: (c111 : Value) :: (c112 : Value) :: (c113 : Value) :: (c114 : Value) :: (c115 : Value) :: (c116 : Value) :: (c117 : Value) :: (c118 : Value) :: (c119 : Value) :: (c120 : Value) :: (c121 : Value) :: (c122 : Value) :: (c123 : Value) :: (c124 : Value) :: (c125 : Value) :: (c126 : Value) :: (c127 : Value) :: (c128 : Value) :: (c129 : Value) :: (c130 : Value) :: (c131 : Value) :: (c132 : Value) :: (c133 : Value) :: (c134 : Value) :: (c135 : Value) :: (c136 : Value) :: (c137 : Value) :: (c138 : Value) :: (c139 : Value) :: (c140 : Value) :: (c141 : Value) :: (c142 : Value) :: (c143 : Value) :: (c144 : Value) :: (c145 : Value) :: (c146 : Value) :: (c147 : Value) :: (c148 : Value) :: (c149 : Value) :: (c150 : Value) :: (c151 : Value) :: (c152 : Value) :: (c153 : Value) :: (c154 : Value) :: (c155 : Value) :: (c156 : Value) :: (c157 : Value) :: (c158 : Value) :: (c159 : Value) :: (c160 : Value) :: (c161 : Value) :: (c162 : Value) :: (c163 : Value) :: (c164 : Value) :: (c165 : Value) :: (c166 : Value) :: (c167 : Value) :: (c168 : Value) :: (c169 : Value) :: (c170 : Value) :: (c171 : Value) :: (c172 : Value) :: (c173 : Value) :: (c174 : Value) :: (c175 : Value) :: (c176 : Value) :: (c177 : Value) :: (c178 : Value) :: (c179 : Value) :: (c180 : Value) :: (c181 : Value) :: (c182 : Value) :: (c183 : Value) :: (c184 : Value) :: (c185 : Value) :: (c186 : Value) :: (c187 : Value) :: (c188 : Value) :: (c189 : Value) :: (c190 : Value) :: (c191 : Value) :: (c192 : Value) :: (c193 : Value) :: (c194 : Value) :: (c195 : Value) :: (c196 : Value) :: (c197 : Value) :: (c198 : Value) :: (c199 : Value) :: (c200 : Value) :: (c201 : Value) :: (c202 : Value) :: (c203 : Value) :: (c204 : Value) :: (c205 : Value) :: (c206 : Value) :: (c207 : Value) :: (c208 : Value) :: (c209 : Value) :: (c210 : Value) :: (c211 : Value) :: (c212 : Value) :: (c213 : Value) :: (c214 : Value) :: (c215 : Value) :: (c216 : Value) :: (c217 : Value) :: (c218 : Value) :: (c219 : Value) :: (c220 : Value) :: (c221 : Value) :: (c222 : Value) :: (c223 : Value) :: (c224 : Value) :: (c225 : Value) :: (c226 : Value) :: (c227 : Value) :: (c228 : Value) :: (c229 : Value) :: (c230 : Value) :: (c231 : Value) :: (c232 : Value) :: (c233 : Value) :: (c234 : Value) :: (c235 : Value) :: (c236 : Value) :: (c237 : Value) :: (c238 : Value) :: (c239 : Value) :: (c240 : Value) :: (c241 : Value) :: (c242 : Value) :: (c243 : Value) :: (c244 : Value) :: (c245 : Value) :: (c246 : Value) :: (c247 : Value) :: (c248 : Value) :: (c249 : Value) :: (c250 : Value) :: (c251 : Value) :: (c252 : Value) :: (c253 : Value) :: (c254 : Value) :: (c255 : Value) :: (c256 : Value) :: (c257 : Value) :: (c258 : Value) :: (c259 : Value) :: (c260 : Value) :: (c261 : Value) :: (c262 : Value) :: (c263 : Value) :: (c264 : Value) :: (c265 : Value) :: (c266 : Value) :: (c267 : Value) :: (c268 : Value) :: (c269 : Value) :: (c270 : Value) :: (c271 : Value) :: (c272 : Value) :: (c273 : Value) :: (c274 : Value) :: (c275 : Value) :: (c276 : Value) :: (c277 : Value) :: (c278 : Value) :: (c279 : Value) :: (c280 : Value) :: (c281 : Value) :: (c282 : Value) :: (c283 : Value) :: (c284 : Value) :: (c285 : Value) :: (c286 : Value) :: (c287 : Value) :: (c288 : Value) :: (c289 : Value) :: (c290 : Value) :: (c291 : Value) :: (c292 : Value) :: (c293 : Value) :: (c294 : Value) :: (c295 : Value) :: (c296 : Value) :: (c297 : Value) :: (c298 : Value) :: (c299 : Value) :: (c300 : Value) :: (c301 : Value) :: (c302 : Value) :: (c303 : Value) :: (c304 : Value) :: (c305 : Value) :: (c306 : Value) :: (c307 : Value) :: (c308 : Value) :: (c309 : Value) :: (c310 : Value) :: (c311 : Value) :: (c312 : Value) :: (c313 : Value) :: (c314 : Value) :: (c315 : Value) :: (c316 : Value) :: (c317 : Value) :: (c318 : Value) :: (c319 : Value) :: [])), []⟩ w0 := by
  subst hbody
  conv => arg 2; arg 1; whnf
  have HG := hide hg
  obtain ⟨hn4, hm4, t1, t2, r1, r2, hw1', he1, hwn⟩ := hg
  have hb : k + m ≤ 1048576 := by omega
  have HTR := hide (And.intro htl hrl)
  have HP1 := hide hP1
  have HRC := hide hRC
  have HRB := hide hRB
  have HX := hide hexit
  obtain ⟨i0, hi, hsz⟩ := info32'
  clear t1 r1 t2 r2 htl hrl hP1 hRC hRB hexit
  go_loopw [18, 20] (fun v i wx => ∃ j : Nat, j ≤ m ∧ i = .int .i64 j ∧ v = .slice (some ⟨R + 1, 0, none⟩) (k + j) (k + m) ∧ Below (R + 1) wR wx ∧
      ∃ L : List Blk, L.length = k + j ∧ (∀ b ∈ L, Pos b.comm) ∧ wx.ownsRow (R + 1) 32 7 (.slice (some ⟨R + 1, 0, none⟩) (k + j) (k + m)) (k + j) (flat L)) (fun _ i _ => m - (intOf i).toNat)
  case atStart =>
    obtain ⟨L, hL, hLp, hown⟩ := hL0
    exact ⟨j0, hj0, rfl, hv0, hb0, L, hL, hLp, hown⟩
  case round =>
    clear hb0 hL0 hv0
    obtain ⟨j, hj, rfl, rfl, hbel, L, hL, hLp, hown⟩ := hrel
    by_cases hlt : j < m
    · obtain ⟨rfl, hrB, hSR⟩ := HRB.out (by omega)
      have hsh : wr.cell? ⟨S, j, none⟩ = some (.float .f64 (z1 j)) := (hrB.of_block (hbel.block _ (by omega))).cell hlt
      have hR : ∀ o, wr.cell? ⟨R, o, none⟩ = #[Value.float .f64 tol, .float .f64 rise, .int .i64 win, .int .i64 every][o]? := fun o => (hbel.cell (by show R < R + 1; omega)).trans (HRC.out o)
      have g0 := hR 0
      have g1 := hR 1
      have g2 := hR 2
      have g3 := hR 3
      simp at g0 g1 g2 g3
      have hltG := owns_lt hown
      have hltR : R < wr.heap.size := by omega
      have hltS : S < wr.heap.size := by omega
      have HBE := hide hbel
      have HO := hide hown
      have HL := hide (And.intro hL hLp)
      clear hR hrB hbel hown hL hLp
      go_wp2_with fail
      have hpL := comm_get HL.out.1 HL.out.2
      have hps := HP1.out j hlt
      obtain ⟨hr1, hr2⟩ := good_rise HTR.out.2 HG.out
      refine (next_at tol rise win every (R + 1) (k + j) (k + m) (R + 1) L ((j : Int) + 1) (floatOfInt .f64 (j : Int)) (z1 j) 13830554455654793216 13830554455654793216 13830554455654793216 4619567317775286272 target _ (by omega) (HO.out.alloc _) HL.out.1
        (good_tol HTR.out.1 HG.out) hr1 hr2 (by omega) (by omega) (by omega) he1 (by omega) (by omega) hps.1 hps.2 hpL).mono ?_
      rintro e w1 ⟨d, rfl, hd, hb1⟩
      have HCO := hide (commOut_ok rise (z1 j) win every ((j : Int) + 1) (k + j) (fun t => (blkAt L t).comm) hr1 hr2 (by omega) (by omega) (by omega) hps.1 hps.2 hpL)
      generalize hcq : commOut rise (z1 j) win every ((j : Int) + 1) (k + j) (fun t => (blkAt L t).comm) = c at *
      have HCQ := hide hcq
      generalize hhq : hashOut tol (z1 j) c = hh at *
      have HHQ := hide hhq
      have HD := hide hd
      have HO1 := hide (owns_below (HO.out.alloc _) hb1)
      have HB1 : Hid (Below (R + 1) wR w1) :=
        (HBE.out.alloc (by omega) _).trans (hb1.mono (by simp; omega))
      have oS : FloatKind.f64.format.order (floatOfInt .f64 (j : Int)) (floatOfInt .f64 (j : Int)) = some .eq := by rw [ofN_eq]; exact o_eq (Fl.ofN_le j)
      have oH : FloatKind.f64.format.order (z1 j) (z1 j) = some .eq := o_eq hps.2
      have o7 : FloatKind.f64.format.order 4619567317775286272 4619567317775286272 = some .eq := o_eq (by decide)
      have HPL := hide hpL
      have HPS := hide hps
      have HRR := hide (And.intro hr1 hr2)
      clear hpL hps hr1 hr2 hcq hhq hd hb1 HBE HO hsh g0 g1 g2 g3 hltG hltR hltS
      have hltG := owns_lt HO1.out
      have HPA := hide (past_of_owns HO1.out HL.out.1)
      go_upto_if 212 with fail
      refine if_212 tol rise target win every k m R j L z1 c hh d w1 _ _ _ _ _ _ _ _ _ _ _ _ _ _ _ _ _ _ _ _ _ _ _ _ _ _ _ _ _ _ _ _ _ _ _ _ _ _ _ _ _ _ _ _ _ _ _ _ _ _ _ _ _ _ _ _ _ _ _ _ _ _ _ _ _ _ _ _ _ _ _ _ _ _ _ _ _ _ _ _ _ _ _ _ _ _ _ _ _ _ _ _ _ _ _ _ _ _ _ _ _ _ _ _ _ _ _ _ _ _ _ _ _ _ _ _ _ _ _ _ _ _ _ _ _ _ _ _ _ _ _ _ _ _ _ _ _ _ _ _ _ _ _ _ _ _ _ _ _ _ _ _ _ _ _ _ _ _ _ _ _ _ _ _ _ _ _ _ _ _ _ _ _ _ _ _ _ _ _ _ _ _ _ _ _ _ _ _ _ _ _ _ _ _ _ _ _ _ _ _ _ _ _ _ _ _ _ _ _ _ _ _ _ _ _ _ _ _ _ _ _ _ _ _ _ _ _ _ _ _ _ _ _ _ _ _ _ _ _ _ _ _ _ _ _ _ _ _ _ _ _ _ _ _ _ _ _ _ _ _ _ _ _ _ _ _ _ _ _ _ _ _ _ _ _ _ _ _ _ _ _ _ _ _ _ _ _ _ _ _ _ _ _ _ _ _ _ _ _ _ _ _ _ _ _ _ _ _ _ _ _ _ _ _ _ _ _ (by kernel_rfl) hn4 hm4 he1 hw1' hwn hj hlt hltG HPA.out HPL.out HCO.out HCQ.out HPS.out HRR.out ?_
      intro u0 u1 u2 u3 u4 u5 u6 u7 u8 u9 u10 u11 u12 u13 u14 u15 u16 u17 u18 u19 u20 u21 u22 u23 u24 u25 u26 u27 u28 u29 u30 u31 u32 u33 u34 u35 u36 u37 u38 u39 u40 u41 u42 u43 u44 u45 u46 u47 u48 u49 u50 u51 u52 u53 u54 u55 u56 u57 u58 u59 u60
      go_upto_if 271 with fail
      refine if_271 tol rise target win every k m R j L z1 c hh d w1 _ _ _ _ _ _ _ _ _ _ _ _ _ _ _ _ _ _ _ _ _ _ _ _ _ _ _ _ _ _ _ _ _ _ _ _ _ _ _ _ _ _ _ _ _ _ _ _ _ _ _ _ _ _ _ _ _ _ _ _ _ _ _ _ _ _ _ _ _ _ _ _ _ _ _ _ _ _ _ _ _ _ _ _ _ _ _ _ _ _ _ _ _ _ _ _ _ _ _ _ _ _ _ _ _ _ _ _ _ _ _ _ _ _ _ _ _ _ _ _ _ _ _ _ _ _ _ _ _ _ _ _ _ _ _ _ _ _ _ _ _ _ _ _ _ _ _ _ _ _ _ _ _ _ _ _ _ _ _ _ _ _ _ _ _ _ _ _ _ _ _ _ _ _ _ _ _ _ _ _ _ _ _ _ _ _ _ _ _ _ _ _ _ _ _ _ _ _ _ _ _ _ _ _ _ _ _ _ _ _ _ _ _ _ _ _ _ _ _ _ _ _ _ _ _ _ _ _ _ _ _ _ _ _ _ _ _ _ _ _ _ _ _ _ _ _ _ _ _ _ _ _ _ _ _ _ _ _ _ _ _ _ _ _ _ _ _ _ _ _ _ _ _ _ _ _ _ _ _ _ _ _ _ _ _ _ _ _ _ _ _ _ _ _ _ _ _ _ _ _ _ _ _ _ _ _ _ _ _ _ _ _ _ _ _ _ _ _ (by kernel_rfl) HCO.out HPS.out HHQ.out (good_tol HTR.out.1 HG.out) ?_
      intro v0 v1 v2 v3 v4 v5 v6 v7 v8 v9 v10 v11 v12 v13 v14 v15 v16 v17 v18 v19 v20 v21 v22 v23 v24 v25 v26 v27 v28 v29 v30 v31 v32 v33 v34 v35 v36 v37 v38 v39 v40
      go_upto_region 59 with fail
      refine reg_diff target j z1 c hh d w1 _ _ _ _ _ _ _ _ _ _ _ _ _ _ _ _ _ _ _ _ _ _ _ _ _ _ _ _ _ _ _ _ _ _ _ _ _ _ _ _ _ _ _ _ _ _ _ _ _ _ _ _ _ _ _ _ _ _ _ _ _ _ _ _ _ _ _ _ _ _ _ _ _ _ _ _ _ _ _ _ _ _ _ _ _ _ _ _ _ _ _ _ _ _ _ _ _ _ _ _ _ _ _ _ _ _ _ _ _ _ _ _ _ _ _ _ _ _ _ _ _ _ _ _ _ _ _ _ _ _ _ _ _ _ _ _ _ _ _ _ _ _ _ _ _ _ _ _ _ _ _ _ _ _ _ _ _ _ _ _ _ _ _ _ _ _ _ _ _ _ _ _ _ _ _ _ _ _ _ _ _ _ _ _ _ _ _ _ _ _ _ _ _ _ _ _ _ _ _ _ _ _ _ _ _ _ _ _ _ _ _ _ _ _ _ _ _ _ _ _ _ _ _ _ _ _ _ _ _ _ _ _ _ _ _ _ _ _ _ _ _ _ _ _ _ _ _ _ _ _ _ _ _ _ _ _ _ _ _ _ _ _ _ _ _ _ _ _ _ _ _ _ _ _ _ _ _ _ _ _ _ _ _ _ _ _ _ _ _ _ _ _ _ _ _ _ _ _ _ _ _ _ _ _ _ _ _ _ _ _ _ _ _ _ _ _ _ _ _ _ (by kernel_rfl) HD.out ?_
      intro t0 t1 t2 t3 t4 t5 q
      go_wp2_with (at_builtin; refine wpList_append_own_spare _ rfl (.tmp 316) (.tmp 318) 30 rfl (R + 1) 32 i0 7 Tryf.underlying30 hi hsz (R + 1) (k + j) (k + m) (flat L) rfl ?c0 ⟨w1.heap.size + 1, 0, none⟩ 1 1 (blkList ⟨(j : Int) + 1, floatOfInt .f64 (j : Int), z1 j, hh, c, d, 4619567317775286272⟩) rfl rfl ?c1 ?c2 ?c3 ?_)
      case c0 => exact (owns_drewN (HO1.out.alloc _) q).alloc _
      case c1 => exact fun t u h => new_cells' _ _ (by simp) _ _ t u (by simpa [blkList] using h)
      case c2 => exact blk_one _
      case c3 => omega
      intro w3 hown3 hgrow3
      have HO3 := hide hown3
      have HB3 : Hid (Below (R + 1) wR w3) :=
        ((below_drewN (HB1.out.alloc (by omega) _) q).alloc (by simp; omega) _).grown hgrow3 (by simp; omega) (fun t ht => by injection ht with ht; omega)
      clear hown3 hgrow3
      go_wp2_with fail
      go_roundw
      case rel =>
        refine ⟨j + 1, by omega, by go_num, rfl, HB3.out, L ++ [⟨(j : Int) + 1, floatOfInt .f64 (j : Int), z1 j, hh, c, d, 4619567317775286272⟩], by simp [HL.out.1]; omega, fun b hb => ?_, by rw [flat_snoc]; exact HO3.out⟩
        rcases List.mem_append.1 hb with g | g
        · exact HL.out.2 b g
        · rw [List.mem_singleton.1 g]; exact HCO.out
      case measure => simp [intOf]; omega
    · have HBE := hide hbel
      clear hbel hown hL hLp
      go_wp2_with fail
      exact HX.out _ _ _ _ _ _ _ _ _ _ _ _ _ _ _ _ _ _ _ _ _ _ _ _ _ _ _ _ _ _ _ _ _ _ _ _ _ _ _ _ _ _ _ _ _ _ _ _ _ _ _ _ _ _ _ _ _ _ _ _ _ _ _ _ _ _ _ _ _ _ _ _ _ _ _ _ _ _ _ _ _ _ _ _ _ _ _ _ _ _ _ _ _ _ _ _ _ _ _ _ _ _ _ _ _ _ _ _ _ _ _ _ _ _ _ _ _ _ _ _ _ _ _ _ _ _ _ _ _ _ _ _ _ _ _ _ _ _ _ _ _ _ _ _ _ _ _ _ _ _ _ _ _ _ _ _ _ _ _ _ _ _ _ _ _ _ _ _ _ _ _ _ _ _ _ _ _ HBE.out

end Go.Proofs.Qxb6619576aFmt

/-
  Seat b6619576aF: the walk of the law FnBondedNextRun (3).
-/
import Derived.Test.Qxb6619576aFmtLoop
namespace Go.Proofs.Qxb6619576aFmt
open Go.RowKit
set_option linter.unusedSimpArgs false
attribute [local go_sem] run_store_float

theorem pos_yes {x : Nat} (h : Pos x) : FloatKind.f64.format.order x 0 = some .gt ∧ FloatKind.f64.format.order x x = some .eq := ⟨o_gt h.1 h.2, o_eq h.2⟩
theorem pos_no {x : Nat} (hx : x < 18446744073709551616) (h : ¬ Pos x) :
    (FloatKind.f64.format.order x 0 = some .lt ∨ FloatKind.f64.format.order x 0 = some .eq) ∨ (FloatKind.f64.format.order x 0 = none ∧ FloatKind.f64.format.order x x = none) := by
  rcases Nat.lt_or_ge Fl.INF (x % 9223372036854775808) with hr | hr
  · right; exact ⟨Fl.order_nan hr 0, Fl.order_nan hr x⟩
  · left
    rcases Nat.lt_or_ge x 9223372036854775808 with hs | hs
    · have e : x = 0 := by
        rcases Nat.eq_zero_or_pos x with g | g
        · exact g
        · exact absurd ⟨g, by omega⟩ h
      right; rw [e]; exact o_eq (Nat.zero_le _)
    · obtain ⟨u, rfl⟩ : ∃ u, x = 9223372036854775808 + u := ⟨x - 9223372036854775808, by omega⟩
      have hu : u ≤ Fl.INF := by omega
      have hself := Fl.order_word true u hu
      simp only [Ieee.Format.word, if_true, Fl.d_sw] at hself
      rcases Fl.kinds hx hself with g | g | g
      · rw [Fl.INF_eq] at g; omega
      · right; rw [g]; show Ieee.double.order Fl.MZ 0 = some .eq; decide +kernel
      · left; exact g 0 (Nat.zero_le _)

set_option maxRecDepth 1000000 in
set_option maxHeartbeats 8000000 in
theorem law_main (tol rise target : Nat) (win : Nat) (every : Int) (x0 : Addr) (n n' : Nat) (z0 : Nat → Nat) (a1 : Option Addr) (m m' : Nat) (z1 : Nat → Nat) (w : World) (hg : Good tol rise win every n m)
    (hc0 : ∀ j, j < n → w.cell? (x0.add j) = some (.float .f64 (z0 j))) (hw0 : ∀ j, z0 j < 18446744073709551616)
    (hc1 : 0 < m → ∃ x, a1 = some x ∧ ∀ j, j < m → w.cell? (x.add j) = some (.float .f64 (z1 j))) (hw1 : ∀ j, z1 j < 18446744073709551616) (hnil : a1 = none → m = 0 ∧ m' = 0) (htl : tol < 18446744073709551616) (hrl : rise < 18446744073709551616) :
    Calls Tryf.prog 3 #[.float .f64 tol, .float .f64 rise, .int .i64 win, .int .i64 every, .slice (some x0) n n', .slice a1 m m', .float .f64 target] w fun e w' => e = .returned (.bool true) ∧ Below w.heap.size w w' := by
  have HB := hide (bytes_calls tol rise target win every (some x0) a1 n n' m m' (Nat.le_trans hg.n4 (by decide)) (Nat.le_trans hg.m4 (by decide)) w)
  have HG := hide hg
  obtain ⟨hn4, hm4, t1, t2, r1, r2, hw1', he1, hwn⟩ := hg
  have hb : n + m ≤ 1048576 := by omega
  have t1' := beq_lt_false t1
  have r1' := beq_lt_false r1
  have HC0 := hide hc0
  have HC1 := hide hc1
  have HW := hide (And.intro hw0 hw1)
  have HNIL := hide hnil
  have HTR := hide (And.intro htl hrl)
  clear t1 r1 hc0 hc1 hw0 hw1 hnil htl hrl
  go_enter Tryf.func3, Tryf.ntmps3
  go_wp2_with fail
  refine HB.out.mono ?_
  rintro e w' ⟨rfl, rfl⟩
  go_wp2_with fail
  go_loopw [15] (fun i wr => ∃ k : Nat, k ≤ n ∧ i = .int .i64 k ∧ (∀ j, j < k → Pos (z0 j)) ∧ ∃ q, wr = w'.drewN q) (fun i _ => n - (intOf i).toNat)
  case atStart => exact ⟨0, Nat.zero_le _, rfl, fun j hj => absurd hj (by omega), 0, rfl⟩
  case round =>
    obtain ⟨k, hk, rfl, hpos, q, rfl⟩ := hrel
    have HPOS := hide hpos
    clear hpos
    by_cases hlt : k < n
    · have hcell := HC0.out k hlt
      by_cases hp : Pos (z0 k)
      · obtain ⟨o1, o2⟩ := pos_yes hp
        go_wp2_with fail
        go_quiet (fail)
        go_wp2_with fail
        go_roundw
        case rel => exact ⟨k + 1, by omega, by go_num, fun j hj => by (by_cases e : j = k; (rw [e]; exact hp); exact HPOS.out j (by omega)), _, rfl⟩
        case measure => simp [intOf]; omega
      · rcases pos_no (HW.out.1 k) hp with (o1 | o1) | ⟨o1, o2⟩
        all_goals
          clear hp
          go_wp2_with fail
          go_quiet (fail)
          go_wp2_with fail
          go_ret
          exact ⟨rfl, below_drewN (below_drewN (Below.refl _ _) _) _⟩
    · have HP0 : Hid (∀ j, j < n → Pos (z0 j)) := fun j hj => HPOS.out j (by omega)
      clear HPOS
      go_wp2_with fail
      go_loopw [16] (fun i wr => ∃ k : Nat, k ≤ m ∧ i = .int .i64 k ∧ (∀ j, j < k → Pos (z1 j)) ∧ ∃ q, wr = w'.drewN q) (fun i _ => m - (intOf i).toNat)
      case atStart => exact ⟨0, Nat.zero_le _, rfl, fun j hj => absurd hj (by omega), _, rfl⟩
      case round =>
        clear hk hlt
        obtain ⟨k, hk, rfl, hpos, q, rfl⟩ := hrel
        have HPOS := hide hpos
        clear hpos
        by_cases hlt : k < m
        · obtain ⟨x1, rfl, hc1⟩ := HC1.out (by omega)
          have hcell := hc1 k hlt
          clear hc1
          by_cases hp : Pos (z1 k)
          · obtain ⟨o1, o2⟩ := pos_yes hp
            go_wp2_with fail
            go_quiet (fail)
            go_wp2_with fail
            go_roundw
            case rel => exact ⟨k + 1, by omega, by go_num, fun j hj => by (by_cases e : j = k; (rw [e]; exact hp); exact HPOS.out j (by omega)), _, rfl⟩
            case measure => simp [intOf]; omega
          · rcases pos_no (HW.out.2 k) hp with (o1 | o1) | ⟨o1, o2⟩
            all_goals
              clear hp
              go_wp2_with fail
              go_quiet (fail)
              go_wp2_with fail
              go_ret
              exact ⟨rfl, below_drewN (below_drewN (Below.refl _ _) _) _⟩
        · have HP1 : Hid (∀ j, j < m → Pos (z1 j)) := fun j hj => HPOS.out j (by omega)
          clear HPOS
          go_wp2_with fail
          clear hk hlt
          obtain ⟨wq, hwq⟩ : ∃ wq, wq = w'.drewN q := ⟨_, rfl⟩
          have Hq : Hid (Below w'.heap.size w' wq) := by rw [hwq]; exact below_drewN (Below.refl _ _) _
          have Hc : Hid (∀ a, wq.cell? a = w'.cell? a) := by rw [hwq]; exact fun _ => rfl
          rw [← hwq]
          clear hwq
          refine (clone_some x0 n n' z0 hn4 wq (fun j hj => (Hc.out _).trans (HC0.out j hj))).mono ?_
          rintro e wA ⟨rfl, hrA, hbA⟩
          have HRA := hide hrA
          have HBA := hide hbA
          clear hrA hbA
          go_wp2_with fail
          refine (clone_any a1 m m' z1 hm4 wA HNIL.out (fun h => by
            obtain ⟨x, h1, h2⟩ := HC1.out h
            exact ⟨x, h1, fun j hj => (HBA.out.cell (World.block_lt_of_cell? wq _ ((Hc.out _).trans (h2 j hj)))).trans ((Hc.out _).trans (h2 j hj))⟩)).mono ?_
          rintro e wB ⟨a2, c2, rfl, hrB, hbB⟩
          have HRB := hide hrB
          have HBB := hide hbB
          clear hrB hbB
          obtain ⟨C, hC, hmk⟩ := make_past n m (by omega)
          have HSZ := hide hC
          clear hC
          go_wp2_with fail
          clear hmk
          obtain ⟨i0, hi, hsz⟩ := info32'
          go_loopw [18, 19] (fun v i wr => ∃ k : Nat, k ≤ n ∧ i = .int .i64 k ∧ v = .slice (some ⟨wB.heap.size + 1, 0, none⟩) k (n + m) ∧ Below (wB.heap.size + 1) (wB.alloc (.cells #[.float .f64 tol, .float .f64 rise, .int .i64 win, .int .i64 every] 29)) wr ∧
              ∃ L : List Blk, L.length = k ∧ (∀ b ∈ L, Pos b.comm) ∧ wr.ownsRow (wB.heap.size + 1) 32 7 (.slice (some ⟨wB.heap.size + 1, 0, none⟩) k (n + m)) k (flat L)) (fun _ i _ => n - (intOf i).toNat)
          case atStart =>
            refine ⟨0, Nat.zero_le _, rfl, rfl, (Below.refl _ _).alloc (by simp) _, [], rfl, fun b hb => absurd hb (by simp), ?_⟩
            have h := World.ownsRow_made (base := wB.heap.size + 1) (e := 32) (size := 7) (wB.alloc (.cells #[.float .f64 tol, .float .f64 rise, .int .i64 win, .int .i64 every] 29)) C (n + m) (by simp) (by unfold maxLen; omega) HSZ.out
            have e : (wB.alloc (.cells #[.float .f64 tol, .float .f64 rise, .int .i64 win, .int .i64 every] 29)).heap.size = wB.heap.size + 1 := by simp
            rw [e] at h
            exact h
          case round =>
            obtain ⟨k, hk, rfl, rfl, hbel, L, hL, hLp, hown⟩ := hrel
            by_cases hlt : k < n
            · have hA : wB.rowIs wq.heap.size 22 n (fun j => .float .f64 (z0 j)) := HRA.out.of_block (HBB.out.block _ HRA.out.lt)
              have hA2 := hA.lt
              have hcell : wr.cell? ⟨wq.heap.size, k, none⟩ = some (.float .f64 (z0 k)) := ((hA.alloc (.cells #[.float .f64 tol, .float .f64 rise, .int .i64 win, .int .i64 every] 29)).of_block (hbel.block _ (by omega))).cell hlt
              have HBE := hide hbel
              have HO := hide hown
              have HL := hide (And.intro hL hLp)
              clear hA hA2 hbel hown hL hLp
              go_wp2_with (at_builtin; refine wpList_append_own_spare _ rfl (.tmp 144) (.tmp 155) 30 rfl (wB.heap.size + 1) 32 i0 7 Tryf.underlying30 hi hsz (wB.heap.size + 1) k (n + m) (flat L) rfl (HO.out.alloc _) ⟨wr.heap.size, 0, none⟩ 1 1 (blkList ⟨(k : Int) + 1 - (n : Int), 0, 0, 0, z0 k, 0, 0⟩) rfl rfl ?c1 ?c2 ?c3 ?_)
              case c1 => exact fun j u h => new_cells _ _ _ j u (by simpa [blkList] using h)
              case c2 => exact blk_one _
              case c3 => omega
              intro w1 hown1 hgrow1
              have HO1 := hide hown1
              have HB1 : Hid (Below (wB.heap.size + 1) (wB.alloc (.cells #[.float .f64 tol, .float .f64 rise, .int .i64 win, .int .i64 every] 29)) w1) :=
                (HBE.out.alloc (by have := HBE.out.size; simpa using this) _).grown hgrow1 (by have := HBE.out.size; simp at this ⊢; omega) (fun j hj => by injection hj with hj; omega)
              clear hown1 hgrow1 HBE HO
              go_wp2_with fail
              go_roundw
              case rel =>
                refine ⟨k + 1, by omega, by go_num, rfl, HB1.out, L ++ [⟨(k : Int) + 1 - (n : Int), 0, 0, 0, z0 k, 0, 0⟩], by simp [HL.out.1], fun b hb => ?_, by rw [flat_snoc]; exact HO1.out⟩
                rcases List.mem_append.1 hb with g | g
                · exact HL.out.2 b g
                · rw [List.mem_singleton.1 g]; exact HP0.out k hlt
              case measure => simp [intOf]; omega
            · obtain rfl : k = n := by omega
              go_wp2_with fail
              clear hlt hk
              refine loop4 tol rise target win every k m c2 wA.heap.size wB.heap.size a2 z1 (wB.alloc (.cells #[.float .f64 tol, .float .f64 rise, .int .i64 win, .int .i64 every] 29)) wr 0 (.slice (some ⟨wB.heap.size + 1, 0, none⟩) k (k + m)) _ _ _ _ _ _ _ _ _ _ _ _ _ _ _ _ _ _ _ _ _ _ _ _ _ _ _ _ _ _ _ _ _ _ _ _ _ _ _ _ _ _ _ _ _ _ _ _ _ _ _ _ _ _ _ _ _ _ _ _ _ _ _ _ _ _ _ _ _ _ _ _ _ _ _ _ _ _ _ _ _ _ _ _ _ _ _ _ _ _ _ _ _ _ _ _ _ _ _ _ _ _ _ _ _ _ _ _ _ _ _ _ _ _ _ _ _ _ _ _ _ _ _ _ _ _ _ _ _ _ _ _ _ _ _ _ _ _ _ _ _ _ _ _ _ _ _ _ _ _ _ _ _ _ _ _ _ _ _ _ _ _ _ _ _ _ _ _ _ _ _ _ _ _ _ _ _ _ _ _ _ _ _ _ _ _ _ _ _ _ _ _ _ _ _ _ _ _ _ _ _ _ _ _ _ _ _ _ _ _ _ _ _ _ _ _ _ _ _ _ _ _ _ _ _ _ _ _ _ _ _ _ _ _ _ _ _ _ _ _ _ _ _ _ _ _ _ _ _ _ _ _ _ _ _ _ _ _ _ _ _ _ _ _ _ _ _ _ _ _ _ _ _ _ _ _ _ _ _ _ _ _ _ _ _ _ _ _ _ _ _ _ _ _ _ _ _ _ _ _ _ _ _ _ _ _ _ _ _ _ _ _ _ _ (by kernel_rfl) HG.out HTR.out.1 HTR.out.2 HP1.out (fun o => World.cell?_alloc_at _ _ _ _ rfl)
                (fun h => ⟨(HRB.out h).1, (HRB.out h).2.alloc _, by have := (HRB.out h).2.lt; omega⟩) (Nat.zero_le _) rfl hbel ⟨L, hL, hLp, hown⟩ ?_
              clear hbel hL hLp hown L
              intro u14 u18 u20 u21 u22 u23 u24 u25 u26 u27 u28 u29 u30 u157 u158 u159 u160 u161 u162 u163 u164 u165 u166 u167 u168 u169 u170 u171 u172 u173 u174 u175 u176 u177 u178 u179 u180 u181 u182 u183 u184 u185 u186 u187 u188 u189 u190 u191 u192 u193 u194 u195 u196 u197 u198 u199 u200 u201 u202 u203 u204 u205 u206 u207 u208 u209 u210 u211 u212 u213 u214 u215 u216 u217 u218 u219 u220 u221 u222 u223 u224 u225 u226 u227 u228 u229 u230 u231 u232 u233 u234 u235 u236 u237 u238 u239 u240 u241 u242 u243 u244 u245 u246 u247 u248 u249 u250 u251 u252 u253 u254 u255 u256 u257 u258 u259 u260 u261 u262 u263 u264 u265 u266 u267 u268 u269 u270 u271 u272 u273 u274 u275 u276 u277 u278 u279 u280 u281 u282 u283 u284 u285 u286 u287 u288 u289 u290 u291 u292 u293 u294 u295 u296 u297 u298 u299 u300 u301 u302 u303 u304 u305 u306 u307 u308 u309 u310 u311 u312 u313 u314 u315 u316 u317 u318 u319 wx hbel
              have HBE := hide hbel
              clear hbel
              go_wp2_with fail
              go_ret
              refine ⟨rfl, ?_⟩
              have s1 := Hq.out.size
              have s2 := HBA.out.size
              have s3 := HBB.out.size
              have b1 := (Hq.out.trans (HBA.out.mono s1)).trans (HBB.out.mono (by omega))
              exact (b1.alloc (by omega) _).trans (HBE.out.mono (by omega))

end Go.Proofs.Qxb6619576aFmt

/-
  Seat b6619576aF: helpers of the law's walk: the row of blocks; a clone of whatever slice.
-/
import Derived.Test.Qxb6619576aFmtEarly
import Derived.Deep.DeepAppendRoom
namespace Go.Proofs.Qxb6619576aFmt
open Go.RowKit
set_option linter.unusedSimpArgs false
attribute [local go_sem] run_store_float

/-- A block's cells. -/
def blkList (b : Blk) : List Value := [.int .i64 b.num, .float .f64 b.start, .float .f64 b.share, .float .f64 b.hash, .float .f64 b.comm, .float .f64 b.diff, .float .f64 b.expd]
def noBlk : Blk := ⟨0, 0, 0, 0, 0, 0, 0⟩
def flat : List Blk → List Value
  | [] => []
  | b :: l => blkList b ++ flat l
theorem flat_length (l : List Blk) : (flat l).length = l.length * 7 := by
  induction l with
  | nil => rfl
  | cons b l ih => simp only [flat, List.length_append, ih, List.length_cons]; simp [blkList]; omega
theorem flat_snoc (l : List Blk) (b : Blk) : flat (l ++ [b]) = flat l ++ blkList b := by
  induction l with
  | nil => simp [flat]
  | cons c l ih => simp only [List.cons_append, flat, ih, List.append_assoc]
/-- The block at place i (a plain name that the walk leaves alone). -/
def blkAt (l : List Blk) (i : Nat) : Blk := l.getD i noBlk
theorem flat_get (l : List Blk) : ∀ (i f : Nat), i < l.length → f < 7 → (flat l)[i * 7 + f]? = (blkList (l.getD i noBlk))[f]? := by
  induction l with
  | nil => intro i f h; simp at h
  | cons b l ih =>
    intro i f h hf
    cases i with
    | zero =>
      simp only [flat]
      rw [List.getElem?_append_left (by simp [blkList]; omega)]
      simp
    | succ i =>
      simp only [flat]
      rw [List.getElem?_append_right (by simp [blkList]; omega)]
      have e : (i + 1) * 7 + f - (blkList b).length = i * 7 + f := by simp [blkList]; omega
      rw [e, ih i f (by simpa using h) hf]
      simp

theorem past_of_owns {w : World} {base g n cap : Nat} {l : List Blk} (h : w.ownsRow base 32 7 (.slice (some ⟨g, 0, none⟩) n cap) n (flat l)) (hl : l.length = n) : PastIs w g n (fun i => blkAt l i) := by
  intro i hi
  have hc : ∀ f, f < 7 → w.cell? ⟨g, i * 7 + f, none⟩ = (blkList (blkAt l i))[f]? := fun f hf => by
    rcases h.2 with ⟨h0, _⟩ | ⟨g', cap', cur, hv, _, hh, hnc, _, hcs, htake⟩
    · cases h0
    · cases hv
      have h1 : (flat l)[i * 7 + f]? = cur.toList[i * 7 + f]? := by
        rw [← htake, List.getElem?_take, if_pos (by omega)]
      unfold blkAt
      rw [← flat_get l i f (by omega) hf, h1]
      simp [World.cell?, hh]
  have h0 := hc 0 (by omega)
  rw [Nat.add_zero] at h0
  exact ⟨h0, hc 1 (by omega), hc 2 (by omega), hc 3 (by omega), hc 4 (by omega), hc 5 (by omega), hc 6 (by omega)⟩
theorem owns_lt {w : World} {base g n cap : Nat} {xs : List Value} (h : w.ownsRow base 32 7 (.slice (some ⟨g, 0, none⟩) n cap) n xs) : g < w.heap.size := by
  rcases h.2 with ⟨h0, _⟩ | ⟨g', cap', cur, hv, _, hh, _⟩
  · cases h0
  · cases hv
    exact (Array.getElem?_eq_some_iff.1 hh).1

/-- A clone of whatever slice of floats. -/
theorem clone_any (a : Option Addr) (m m' : Nat) (f : Nat → Nat) (hm : m ≤ 4096) (w : World) (hnil : a = none → m = 0 ∧ m' = 0) (hc : 0 < m → ∃ x, a = some x ∧ ∀ j, j < m → w.cell? (x.add j) = some (.float .f64 (f j))) :
    Calls Tryf.prog 8 #[.slice a m m'] w fun e w' => ∃ a' c', e = .returned (.slice a' m c') ∧ (0 < m → a' = some ⟨w.heap.size, 0, none⟩ ∧ w'.rowIs w.heap.size 22 m (fun j => .float .f64 (f j))) ∧ Below w.heap.size w w' := by
  cases a with
  | none =>
    obtain ⟨rfl, rfl⟩ := hnil rfl
    refine (clone_nil w).mono ?_
    rintro e w' ⟨rfl, rfl⟩
    exact ⟨_, _, rfl, fun h => absurd h (by omega), Below.refl _ _⟩
  | some x =>
    have hcell : ∀ j, j < m → w.cell? (x.add j) = some (.float .f64 (f j)) := fun j hj => by
      obtain ⟨y, hy, h⟩ := hc (by omega)
      cases hy
      exact h j hj
    refine (clone_some x m m' f hm w hcell).mono ?_
    rintro e w' ⟨rfl, h1, h2⟩
    exact ⟨_, _, rfl, fun _ => ⟨rfl, h1⟩, h2⟩

theorem info32 : (Tryf.prog.info? 32).map (fun i => (i.size, i.bytes)) = some (7, 56) := by kernel_rfl
theorem zero32 : ((Tryf.prog.info? 32).bind (·.zero)).isSome = true := by kernel_rfl

/-- 'make([]sim.Block, 0, n+m)'. -/
theorem make_past (n m : Nat) (h : n + m ≤ 8192) : ∃ C : Array Value, C.size = (n + m) * 7 ∧
    ∀ wx : World, (Instr.makeSlice 30 (.int .i64 0) (.int .i64 ((n : Int) + (m : Int)))).run Tryf.prog wx = .ok (.slice (some ⟨wx.heap.size, 0, none⟩) 0 (n + m)) (wx.alloc (.cells C 32)) := by
  have hz := zero32
  have hi := info32
  cases hq : Tryf.prog.info? 32 with
  | none => rw [hq] at hi; cases hi
  | some i =>
    rw [hq] at hz hi
    simp only [Option.bind_some] at hz
    simp only [Option.map_some, Option.some.injEq, Prod.mk.injEq] at hi
    obtain ⟨z, hz'⟩ := Option.isSome_iff_exists.1 hz
    refine ⟨madeCells z.cells ((n + m) * 7), size_madeCells _ _, fun wx => ?_⟩
    have hr := run_make (P := Tryf.prog) wx 30 32 i z Tryf.underlying30 hq hz' .i64 .i64 0 ((n : Int) + (m : Int)) (Int.le_refl _) (by omega) (by rw [hi.2]; omega) (by omega)
    have e : ((n : Int) + (m : Int)).toNat = n + m := by omega
    rw [e, hi.1] at hr
    exact hr

theorem info32' : ∃ i, Tryf.prog.info? 32 = some i ∧ i.size = 7 := by
  have hi := info32
  cases hq : Tryf.prog.info? 32 with
  | none => rw [hq] at hi; cases hi
  | some i =>
    rw [hq] at hi
    simp only [Option.map_some, Option.some.injEq, Prod.mk.injEq] at hi
    exact ⟨i, rfl, hi.1⟩
theorem new_cells (w : World) (C : Array Value) (t : TypeId) (j : Nat) (u : Value) (h : C[j]? = some u) : (w.alloc (.cells C t)).cell? ((⟨w.heap.size, 0, none⟩ : Addr).add j) = some u := by
  rw [Addr.add_lit, Nat.zero_add, World.cell?_alloc_at _ _ _ _ rfl]; exact h
theorem blk_one (b : Blk) : ∀ u ∈ blkList b, u.oneCell' = true := by
  intro u hu
  simp only [blkList, List.mem_cons, List.not_mem_nil, or_false] at hu
  rcases hu with rfl | rfl | rfl | rfl | rfl | rfl | rfl <;> rfl

theorem owns_below {w w1 : World} {base g n cap : Nat} {xs : List Value} (h : w.ownsRow base 32 7 (.slice (some ⟨g, 0, none⟩) n cap) n xs) (hb : Below w.heap.size w w1) : w1.ownsRow base 32 7 (.slice (some ⟨g, 0, none⟩) n cap) n xs := by
  have hlt := owns_lt h
  refine ⟨h.1, ?_⟩
  rcases h.2 with ⟨h0, _⟩ | ⟨g', cap', cur, hv, h1, hh, h2⟩
  · cases h0
  · cases hv
    exact Or.inr ⟨g, cap, cur, rfl, h1, (hb.block g hlt).trans hh, h2⟩

/-- Next's contract, its block's fields one by one. -/
theorem next_at (tol rise : Nat) (win : Nat) (every : Int) (G n cap base : Nat) (L : List Blk) (num : Int) (st sh q1 q2 q3 ex target : Nat) (w : World) (hn : n ≤ 8192) (hown : w.ownsRow base 32 7 (.slice (some ⟨G, 0, none⟩) n cap) n (flat L)) (hL : L.length = n)
    (ht : TolKind tol) (hr1 : Fl.ONE ≤ rise) (hr2 : rise ≤ Fl.INF) (h1 : 1 ≤ win) (hwn : win ≤ n) (hw4 : win ≤ 4096) (h2 : 1 ≤ every)
    (hnum : 1 ≤ num) (hnum2 : num ≤ 4096) (hs : 0 < sh) (hsi : sh ≤ Fl.INF) (hp : ∀ j, j < n → 0 < (blkAt L j).comm ∧ (blkAt L j).comm ≤ Fl.INF) :
    Calls Tryf.prog 9 #[.agg #[.float .f64 tol, .float .f64 rise, .int .i64 win, .int .i64 every], .slice (some ⟨G, 0, none⟩) n cap,
      .agg #[.int .i64 num, .float .f64 st, .float .f64 sh, .float .f64 q1, .float .f64 q2, .float .f64 q3, .float .f64 ex], .float .f64 target] w fun e w' =>
      ∃ d, e = .returned (.tuple #[.agg #[.int .i64 num, .float .f64 st, .float .f64 sh, .float .f64 (hashOut tol sh (commOut rise sh win every num n (fun j => (blkAt L j).comm))),
        .float .f64 (commOut rise sh win every num n (fun j => (blkAt L j).comm)), .float .f64 d, .float .f64 ex], .nilIface]) ∧
        DiffIs (commOut rise sh win every num n (fun j => (blkAt L j).comm)) target d ∧ Below w.heap.size w w' :=
  next_calls tol rise win every G n cap (fun i => blkAt L i) ⟨num, st, sh, q1, q2, q3, ex⟩ target w hn (owns_lt hown) (past_of_owns hown hL) ht hr1 hr2 h1 hwn hw4 h2 hnum hnum2 hs hsi hp
theorem comm_get {L : List Blk} {n : Nat} (hL : L.length = n) (h : ∀ b ∈ L, 0 < b.comm ∧ b.comm ≤ Fl.INF) : ∀ j, j < n → 0 < (blkAt L j).comm ∧ (blkAt L j).comm ≤ Fl.INF := by
  intro j hj
  have e : blkAt L j = L[j]'(by omega) := by unfold blkAt; simp [show j < L.length by omega]
  rw [e]
  exact h _ (List.getElem_mem _)
theorem good_tol {tol rise : Nat} {window every : Int} {n m : Nat} (ht : tol < 18446744073709551616) (h : Good tol rise window every n m) : TolKind tol := by
  rcases Fl.kinds ht h.t2 with g | g | g
  · rcases Nat.lt_or_ge tol Fl.ONE with k | k
    · exact Or.inr (Or.inl k)
    · exact Or.inl ⟨k, g⟩
  · exact Or.inr (Or.inr g)
  · exact absurd (g 0 (Nat.zero_le _)) h.t1
theorem good_rise {tol rise : Nat} {window every : Int} {n m : Nat} (ht : rise < 18446744073709551616) (h : Good tol rise window every n m) : Fl.ONE ≤ rise ∧ rise ≤ Fl.INF := by
  rcases Fl.kinds ht h.r2 with g | g | g
  · rcases Nat.lt_or_ge rise Fl.ONE with k | k
    · exact absurd (o_lt k (Nat.le_of_lt Fl.ONE_lt)) h.r1
    · exact ⟨k, g⟩
  · exfalso
    have e := Fl.order_mz (Nat.le_of_lt Fl.ONE_lt) (by decide : 0 < Fl.ONE)
    rw [g] at h
    exact h.r1 e
  · exact absurd (g _ (Nat.le_of_lt Fl.ONE_lt)) h.r1

/-! ### the tests, as the walk spells them -/
theorem b_le {x y : Nat} (h : x ≤ y) (hy : y ≤ Fl.INF) : (FloatKind.f64.format.order x y == some Ordering.lt || FloatKind.f64.format.order x y == some Ordering.eq) = true := by
  rcases Nat.lt_or_eq_of_le h with g | g
  · rw [o_lt g hy]; rfl
  · subst g; rw [o_eq hy]; rfl
theorem b_nle {x y : Nat} (h : y < x) (hx : x ≤ Fl.INF) : (FloatKind.f64.format.order x y == some Ordering.lt || FloatKind.f64.format.order x y == some Ordering.eq) = false := by
  rw [o_gt h hx]; rfl
theorem b_ge {x y : Nat} (h : y ≤ x) (hx : x ≤ Fl.INF) : (FloatKind.f64.format.order x y == some Ordering.gt || FloatKind.f64.format.order x y == some Ordering.eq) = true := by
  rcases Nat.lt_or_eq_of_le h with g | g
  · rw [o_gt g hx]; rfl
  · subst g; rw [o_eq hx]; rfl
theorem b_nge {x y : Nat} (h : x < y) (hy : y ≤ Fl.INF) : (FloatKind.f64.format.order x y == some Ordering.gt || FloatKind.f64.format.order x y == some Ordering.eq) = false := by
  rw [o_lt h hy]; rfl
theorem b_nlt {x y : Nat} (h : y ≤ x) (hx : x ≤ Fl.INF) : (FloatKind.f64.format.order x y == some Ordering.lt) = false := by
  rcases Nat.lt_or_eq_of_le h with g | g
  · rw [o_gt g hx]; rfl
  · subst g; rw [o_eq hx]; rfl
theorem half_ok {l : Nat} (h0 : 0 < l) (hi : l ≤ Fl.INF) : Ieee.double.div l Fl.TWO = some (Fl.divW l Fl.TWO) ∧ Fl.divW l Fl.TWO ≤ Fl.INF := by
  by_cases e : l = Fl.INF
  · subst e
    have hd : Fl.divW Fl.INF Fl.TWO = Fl.INF := by unfold Fl.divW; rw [Fl.half_inf]; rfl
    rw [hd]; exact ⟨Fl.half_inf, Nat.le_refl _⟩
  · obtain ⟨a1, a2, _⟩ := Fl.half_hi (show l < Fl.INF by omega) h0
    exact ⟨a1, a2⟩
/-- The hash rate against its band. -/
theorem hash_band {low high share : Nat} (h : low ≤ high) : low ≤ min (max share low) high ∧ min (max share low) high ≤ high ∧ (low ≤ share → share ≤ high → min (max share low) high = share) := by omega

theorem new_cells' (w : World) (g : Nat) (hg : g = w.heap.size) (C : Array Value) (t : TypeId) (j : Nat) (u : Value) (h : C[j]? = some u) : (w.alloc (.cells C t)).cell? ((⟨g, 0, none⟩ : Addr).add j) = some u := by
  subst hg; exact new_cells w C t j u h
theorem owns_drew {w : World} {base g n cap : Nat} {xs : List Value} (h : w.ownsRow base 32 7 (.slice (some ⟨g, 0, none⟩) n cap) n xs) : w.drew.ownsRow base 32 7 (.slice (some ⟨g, 0, none⟩) n cap) n xs := h

end Go.Proofs.Qxb6619576aFmt

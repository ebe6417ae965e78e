/-
  Seat b6619576aF: the walk of (Bonded).Next (9).
-/
import Derived.Test.Qxb6619576aFmtComm
namespace Go.Proofs.Qxb6619576aFmt
open Go.RowKit
set_option linter.unusedSimpArgs false
attribute [local go_sem] run_store_float

/-- A block's seven fields. -/
structure Blk where
  num : Int
  start : Nat
  share : Nat
  hash : Nat
  comm : Nat
  diff : Nat
  expd : Nat

/-- The cells of n blocks lie in block G, from its head on. -/
def PastIs (w : World) (G n : Nat) (bs : Nat → Blk) : Prop := ∀ i, i < n →
  w.cell? ⟨G, i * 7, none⟩ = some (.int .i64 (bs i).num) ∧ w.cell? ⟨G, i * 7 + 1, none⟩ = some (.float .f64 (bs i).start) ∧ w.cell? ⟨G, i * 7 + 2, none⟩ = some (.float .f64 (bs i).share) ∧
  w.cell? ⟨G, i * 7 + 3, none⟩ = some (.float .f64 (bs i).hash) ∧ w.cell? ⟨G, i * 7 + 4, none⟩ = some (.float .f64 (bs i).comm) ∧ w.cell? ⟨G, i * 7 + 5, none⟩ = some (.float .f64 (bs i).diff) ∧ w.cell? ⟨G, i * 7 + 6, none⟩ = some (.float .f64 (bs i).expd)

/-- The world behind Next's three boxes. -/
def W3 (w : World) (tol rise : Nat) (win every : Int) (b : Blk) : World :=
  ((w.alloc (.cells #[.float .f64 tol, .float .f64 rise, .int .i64 win, .int .i64 every] 29)).alloc
    (.cells #[.int .i64 b.num, .float .f64 b.start, .float .f64 b.share, .float .f64 b.hash, .float .f64 b.comm, .float .f64 b.diff, .float .f64 b.expd] 32)).alloc
    (.cells #[.int .i64 0, .float .f64 0, .float .f64 0, .float .f64 0, .float .f64 0, .float .f64 0, .float .f64 0] 32)
theorem W3_size (w : World) (tol rise : Nat) (win every : Int) (b : Blk) : (W3 w tol rise win every b).heap.size = w.heap.size + 1 + 1 + 1 := by simp [W3]
theorem W3_below (w : World) (tol rise : Nat) (win every : Int) (b : Blk) : Below w.heap.size w (W3 w tol rise win every b) :=
  (((Below.refl _ _).alloc (Nat.le_refl _) _).alloc (by simp) _).alloc (by simp; omega) _

/-- What lies in Next's three boxes. -/
structure Boxes (H : Nat) (w : World) (tol rise : Nat) (win every : Int) (b : Blk) : Prop where
  m0 : w.cell? ⟨H, 0, none⟩ = some (.float .f64 tol)
  m1 : w.cell? ⟨H, 1, none⟩ = some (.float .f64 rise)
  m2 : w.cell? ⟨H, 2, none⟩ = some (.int .i64 win)
  m3 : w.cell? ⟨H, 3, none⟩ = some (.int .i64 every)
  b0 : w.cell? ⟨H + 1, 0, none⟩ = some (.int .i64 b.num)
  b1 : w.cell? ⟨H + 1, 1, none⟩ = some (.float .f64 b.start)
  b2 : w.cell? ⟨H + 1, 2, none⟩ = some (.float .f64 b.share)
  b3 : w.cell? ⟨H + 1, 3, none⟩ = some (.float .f64 b.hash)
  b4 : w.cell? ⟨H + 1, 4, none⟩ = some (.float .f64 b.comm)
  b5 : w.cell? ⟨H + 1, 5, none⟩ = some (.float .f64 b.diff)
  b6 : w.cell? ⟨H + 1, 6, none⟩ = some (.float .f64 b.expd)
  z0 : w.cell? ⟨H + 1 + 1, 0, none⟩ = some (.int .i64 0)
  z1 : w.cell? ⟨H + 1 + 1, 1, none⟩ = some (.float .f64 0)
  z2 : w.cell? ⟨H + 1 + 1, 2, none⟩ = some (.float .f64 0)
  z3 : w.cell? ⟨H + 1 + 1, 3, none⟩ = some (.float .f64 0)
  z4 : w.cell? ⟨H + 1 + 1, 4, none⟩ = some (.float .f64 0)
  z5 : w.cell? ⟨H + 1 + 1, 5, none⟩ = some (.float .f64 0)
  z6 : w.cell? ⟨H + 1 + 1, 6, none⟩ = some (.float .f64 0)
  fb : ∀ o, w.frozen? ⟨H + 1, o, none⟩ = false
  fz : ∀ o, w.frozen? ⟨H + 1 + 1, o, none⟩ = false
  lt : H + 1 + 1 < w.heap.size

theorem Boxes.of_eq {H : Nat} {w w' : World} {tol rise : Nat} {win every : Int} {b : Blk} (h : Boxes H w tol rise win every b) (hc : ∀ k o, k < H + 1 + 1 + 1 → w'.cell? ⟨k, o, none⟩ = w.cell? ⟨k, o, none⟩)
    (hf : ∀ k o, k < H + 1 + 1 + 1 → w'.frozen? ⟨k, o, none⟩ = w.frozen? ⟨k, o, none⟩) (hs : H + 1 + 1 < w'.heap.size) : Boxes H w' tol rise win every b :=
  ⟨(hc _ _ (by omega)).trans h.m0, (hc _ _ (by omega)).trans h.m1, (hc _ _ (by omega)).trans h.m2, (hc _ _ (by omega)).trans h.m3, (hc _ _ (by omega)).trans h.b0, (hc _ _ (by omega)).trans h.b1, (hc _ _ (by omega)).trans h.b2,
   (hc _ _ (by omega)).trans h.b3, (hc _ _ (by omega)).trans h.b4, (hc _ _ (by omega)).trans h.b5, (hc _ _ (by omega)).trans h.b6, (hc _ _ (by omega)).trans h.z0, (hc _ _ (by omega)).trans h.z1, (hc _ _ (by omega)).trans h.z2,
   (hc _ _ (by omega)).trans h.z3, (hc _ _ (by omega)).trans h.z4, (hc _ _ (by omega)).trans h.z5, (hc _ _ (by omega)).trans h.z6, fun o => (hf _ o (by omega)).trans (h.fb o), fun o => (hf _ o (by omega)).trans (h.fz o), hs⟩
theorem Boxes.below {H B : Nat} {w w' : World} {tol rise : Nat} {win every : Int} {b : Blk} (h : Boxes H w tol rise win every b) (hb : Below B w w') (hB : H + 1 + 1 + 1 ≤ B) : Boxes H w' tol rise win every b :=
  h.of_eq (fun k o hk => hb.cell (p := ⟨k, o, none⟩) (by show k < B; omega)) (fun k o hk => hb.frozen (p := ⟨k, o, none⟩) (by show k < B; omega)) (by have := hb.size; have := h.lt; omega)
theorem W3_boxes (w : World) (tol rise : Nat) (win every : Int) (b : Blk) : Boxes w.heap.size (W3 w tol rise win every b) tol rise win every b := by
  have e2 : ∀ o o' : Obj, ((w.alloc o).alloc o').heap.size = w.heap.size + 1 + 1 := fun o o' => by simp
  have c0 : ∀ j, (W3 w tol rise win every b).cell? ⟨w.heap.size, j, none⟩ = #[Value.float .f64 tol, .float .f64 rise, .int .i64 win, .int .i64 every][j]? := fun j => by
    unfold W3
    rw [World.cell?_alloc_past _ _ _ (by rw [e2]; omega), World.cell?_alloc_past _ _ _ (by simp), World.cell?_alloc_at _ _ _ _ rfl]
  have c1 : ∀ j, (W3 w tol rise win every b).cell? ⟨w.heap.size + 1, j, none⟩ = #[Value.int .i64 b.num, .float .f64 b.start, .float .f64 b.share, .float .f64 b.hash, .float .f64 b.comm, .float .f64 b.diff, .float .f64 b.expd][j]? := fun j => by
    unfold W3
    rw [World.cell?_alloc_past _ _ _ (by rw [e2]; omega), World.cell?_alloc_at _ _ _ _ (by simp)]
  have c2 : ∀ j, (W3 w tol rise win every b).cell? ⟨w.heap.size + 1 + 1, j, none⟩ = #[Value.int .i64 0, .float .f64 0, .float .f64 0, .float .f64 0, .float .f64 0, .float .f64 0, .float .f64 0][j]? := fun j => by
    unfold W3
    rw [World.cell?_alloc_at _ _ _ _ (by rw [e2])]
  have f1 : ∀ o, (W3 w tol rise win every b).frozen? ⟨w.heap.size + 1, o, none⟩ = false := fun o => by
    unfold W3
    rw [World.frozen?_alloc_past _ _ _ (by rw [e2]; omega)]
    exact World.frozen?_alloc_at _ _ _ _ (by simp)
  have f2 : ∀ o, (W3 w tol rise win every b).frozen? ⟨w.heap.size + 1 + 1, o, none⟩ = false := fun o => by
    unfold W3
    exact World.frozen?_alloc_at _ _ _ _ (by rw [e2])
  exact ⟨c0 0, c0 1, c0 2, c0 3, c1 0, c1 1, c1 2, c1 3, c1 4, c1 5, c1 6, c2 0, c2 1, c2 2, c2 3, c2 4, c2 5, c2 6, f1, f2, by rw [W3_size]; omega⟩

/-- What Commitment gives. -/
def commOut (rise share : Nat) (win : Nat) (every number : Int) (n : Nat) (p : Nat → Nat) : Nat :=
  if (number - 1) % every = 0 then Fl.commW rise share (part p (n - win) win) win else p (n - 1)

theorem comm_any (tol rise : Nat) (win : Nat) (every number : Int) (share g n : Nat) (p : Nat → Nat) (w : World) (ht : TolOk tol) (hr1 : Fl.ONE ≤ rise) (hr2 : rise ≤ Fl.INF) (h1 : 1 ≤ win) (hwn : win ≤ n) (hw4 : win ≤ 4096) (hn : n ≤ 8192) (h2 : 1 ≤ every)
    (hnum : 1 ≤ number) (hnum2 : number ≤ 4096) (hs : 0 < share) (hsi : share ≤ Fl.INF) (hrow : w.rowIs g 22 n (fun j => .float .f64 (p j))) (hp : ∀ j, j < n → 0 < p j ∧ p j ≤ Fl.INF) :
    Calls Tryf.prog 20 #[.agg #[.float .f64 tol, .float .f64 rise, .int .i64 win, .int .i64 every], .int .i64 number, .float .f64 share, .slice (some ⟨g, 0, none⟩) n n] w fun e w' =>
      e = .returned (.tuple #[.float .f64 (commOut rise share win every number n p), .nilIface]) ∧ Below w.heap.size w w' := by
  unfold commOut
  by_cases hmod : (number - 1) % every = 0
  · rw [if_pos hmod]
    exact comm_change tol rise win every number share g n p w ht hr1 hr2 h1 hwn hw4 hn h2 hnum hnum2 hs hsi hrow hp hmod
  · rw [if_neg hmod]
    exact comm_keep tol rise win every number share g n p w ht (riseOk_of hr1 hr2) (by omega) (by omega) hn h2 hnum hnum2 hs hsi hrow hp hmod

theorem commOut_ok (rise share : Nat) (win : Nat) (every number : Int) (n : Nat) (p : Nat → Nat) (hr1 : Fl.ONE ≤ rise) (hr2 : rise ≤ Fl.INF) (h1 : 1 ≤ win) (hwn : win ≤ n) (hw4 : win ≤ 4096)
    (hs : 0 < share) (hsi : share ≤ Fl.INF) (hp : ∀ j, j < n → 0 < p j ∧ p j ≤ Fl.INF) : 0 < commOut rise share win every number n p ∧ commOut rise share win every number n p ≤ Fl.INF := by
  unfold commOut
  by_cases hmod : (number - 1) % every = 0
  · rw [if_pos hmod]
    have hab := part_above p (n - win) win 1 (fun j hj => ⟨(hp ((n - win) + j) (by omega)).1, (hp ((n - win) + j) (by omega)).2⟩)
    obtain ⟨_, _, q3, q4, _⟩ := Fl.comm_ok rise share (part p (n - win) win) 1 win (part_length _ _ _) h1 hw4 (by omega) hab hr1 hr2 hs
    exact ⟨q3, Nat.le_trans q4 hsi⟩
  · rw [if_neg hmod]; exact hp _ (by omega)

/-- What HashRate gives. -/
def hashOut (tol share c : Nat) : Nat := if Fl.ONE ≤ tol ∧ tol ≤ Fl.INF then share else hashW tol share c
/-- The tolerance: at least 1, or below. -/
def TolKind (t : Nat) : Prop := (Fl.ONE ≤ t ∧ t ≤ Fl.INF) ∨ Small t
theorem tolOk_of {t : Nat} (h : TolKind t) : TolOk t := by
  rcases h with h | h | h
  · left; exact o_gt (by have := Fl.ONE_eq; omega) h.2
  · rcases Nat.eq_zero_or_pos t with e | e
    · right; rw [e]; exact o_eq (Nat.zero_le _)
    · left; exact o_gt e (Nat.le_of_lt (Nat.lt_trans h Fl.ONE_lt))
  · right; rw [h]
    show Ieee.double.order Fl.MZ 0 = some .eq
    decide +kernel
theorem small_not {t : Nat} (h : Small t) : ¬ (Fl.ONE ≤ t ∧ t ≤ Fl.INF) := by
  rcases h with h | h
  · omega
  · rw [h, Fl.INF_eq]; unfold Fl.MZ; omega
theorem hash_any (tol rise share c : Nat) (window every : Int) (ht : TolKind tol) (hs : share ≤ Fl.INF) (hc : 0 < c) (hci : c ≤ Fl.INF) (w : World) :
    Calls Tryf.prog 22 #[.agg #[.float .f64 tol, .float .f64 rise, .int .i64 window, .int .i64 every], .float .f64 share, .float .f64 c] w fun e w' =>
      e = .returned (.float .f64 (hashOut tol share c)) ∧ w' = w.alloc (.cells #[.float .f64 tol, .float .f64 rise, .int .i64 window, .int .i64 every] 27) := by
  unfold hashOut
  rcases ht with h | h
  · rw [if_pos h]; exact hash_big tol rise share c window every h.1 h.2 w
  · rw [if_neg (small_not h)]; exact hash_small tol rise share c window every h hs hc hci w
/-- What c times target gives: a number, or some NaN. -/
def DiffIs (c t d : Nat) : Prop := Ieee.double.mul c t = some d ∨ (Ieee.double.mul c t = none ∧ IsNan d)

theorem stores10 {w w1 : World} (h : Below w.heap.size w w1) (v1 v2 v3 v4 v5 v6 v7 v8 v9 v10 : Value) (o : Obj) :
    Below w.heap.size w (((((((((((w1.setCell ⟨w.heap.size + 1, 4, none⟩ v1).setCell ⟨w.heap.size + 1, 5, none⟩ v2).setCell ⟨w.heap.size + 1, 3, none⟩ v3).setCell ⟨w.heap.size + 1 + 1, 0, none⟩ v4).setCell ⟨w.heap.size + 1 + 1, 1, none⟩ v5).setCell
      ⟨w.heap.size + 1 + 1, 2, none⟩ v6).setCell ⟨w.heap.size + 1 + 1, 3, none⟩ v7).setCell ⟨w.heap.size + 1 + 1, 4, none⟩ v8).setCell ⟨w.heap.size + 1 + 1, 5, none⟩ v9).setCell ⟨w.heap.size + 1 + 1, 6, none⟩ v10).alloc o) := by
  have s1 : ∀ (w2 : World) (off : Nat) (v : Value), Below w.heap.size w w2 → Below w.heap.size w (w2.setCell ⟨w.heap.size + 1, off, none⟩ v) := fun w2 off v h => h.setCell (by show w.heap.size ≤ w.heap.size + 1; omega) v
  have s2 : ∀ (w2 : World) (off : Nat) (v : Value), Below w.heap.size w w2 → Below w.heap.size w (w2.setCell ⟨w.heap.size + 1 + 1, off, none⟩ v) := fun w2 off v h => h.setCell (by show w.heap.size ≤ w.heap.size + 1 + 1; omega) v
  have r := s2 _ 6 v10 (s2 _ 5 v9 (s2 _ 4 v8 (s2 _ 3 v7 (s2 _ 2 v6 (s2 _ 1 v5 (s2 _ 0 v4 (s1 _ 3 v3 (s1 _ 5 v2 (s1 _ 4 v1 h)))))))))
  exact r.alloc r.size o

set_option maxHeartbeats 2000000 in
theorem next_calls (tol rise : Nat) (win : Nat) (every : Int) (G n cap : Nat) (bs : Nat → Blk) (b : Blk) (target : Nat) (w : World) (hn : n ≤ 8192) (hG : G < w.heap.size) (hpast : PastIs w G n bs)
    (ht : TolKind tol) (hr1 : Fl.ONE ≤ rise) (hr2 : rise ≤ Fl.INF) (h1 : 1 ≤ win) (hwn : win ≤ n) (hw4 : win ≤ 4096) (h2 : 1 ≤ every)
    (hnum : 1 ≤ b.num) (hnum2 : b.num ≤ 4096) (hs : 0 < b.share) (hsi : b.share ≤ Fl.INF) (hp : ∀ j, j < n → 0 < (bs j).comm ∧ (bs j).comm ≤ Fl.INF) :
    Calls Tryf.prog 9 #[.agg #[.float .f64 tol, .float .f64 rise, .int .i64 win, .int .i64 every], .slice (some ⟨G, 0, none⟩) n cap,
      .agg #[.int .i64 b.num, .float .f64 b.start, .float .f64 b.share, .float .f64 b.hash, .float .f64 b.comm, .float .f64 b.diff, .float .f64 b.expd], .float .f64 target] w fun e w' =>
      ∃ d, e = .returned (.tuple #[.agg #[.int .i64 b.num, .float .f64 b.start, .float .f64 b.share, .float .f64 (hashOut tol b.share (commOut rise b.share win every b.num n (fun j => (bs j).comm))),
        .float .f64 (commOut rise b.share win every b.num n (fun j => (bs j).comm)), .float .f64 d, .float .f64 b.expd], .nilIface]) ∧
        DiffIs (commOut rise b.share win every b.num n (fun j => (bs j).comm)) target d ∧ Below w.heap.size w w' := by
  have hmk := fun (wx : World) => run_make_row' (P := Tryf.prog) 23 22 (.float .f64 0) 8 Tryf.underlying23 info22 rfl .i64 .i64 n (by omega) (by omega) wx
  have HP : Hid (PastIs w G n bs) := hpast
  have HA := hide (And.intro hr1 (And.intro hr2 (And.intro hs (And.intro hsi hp))))
  have HT := hide ht
  clear hpast hr1 hr2 hs hsi hp ht
  go_enter Tryf.func9, Tryf.ntmps9
  go_wp2_with fail
  go_loopw [20] (fun i wr => ∃ k : Nat, k ≤ n ∧ i = .int .i64 k ∧ wr.rowIs (w.heap.size + 1 + 1 + 1) 22 n (fun j => .float .f64 (if j < k then (bs j).comm else 0)) ∧ Below (w.heap.size + 1 + 1 + 1) (W3 w tol rise win every b) wr)
    (fun i _ => n - (intOf i).toNat)
  case atStart =>
    refine ⟨0, Nat.zero_le _, rfl, ?_, ?_⟩
    · have h := World.rowIs_made (W3 w tol rise win every b) (.float .f64 0) n 22
      rw [W3_size] at h
      exact h.congr (fun j _ => by simp)
    · exact (Below.refl _ _).alloc (by rw [W3_size]; exact Nat.le_refl _) _
  case round =>
    obtain ⟨k, hk, rfl, hrow, hbel⟩ := hrel
    by_cases hlt : k < n
    · obtain ⟨f0, f1, f2, f3, f4, f5, f6⟩ := HP.out k hlt
      have hold := hrow.cell hlt
      have hfro := hrow.frozen k
      have hlt2 := hrow.lt
      have hk2 : ∀ o, wr.cell? ⟨G, o, none⟩ = w.cell? ⟨G, o, none⟩ := fun o => (hbel.cell (by show G < _; omega)).trans ((W3_below w tol rise win every b).cell (by exact hG))
      have g0 := (hk2 _).trans f0
      have g1 := (hk2 _).trans f1
      have g2 := (hk2 _).trans f2
      have g3 := (hk2 _).trans f3
      have g4 := (hk2 _).trans f4
      have g5 := (hk2 _).trans f5
      have g6 := (hk2 _).trans f6
      have HR := hide hrow
      have HB := hide hbel
      clear hrow hbel hk2 f0 f1 f2 f3 f4 f5 f6 hmk
      go_wp2_with fail
      go_roundw
      case rel =>
        refine ⟨k + 1, by omega, by go_num, ((HR.out.set k (.float .f64 (bs k).comm)).congr (fun j hj => ?_)).alloc _, (HB.out.setCell (Nat.le_refl _) _).alloc (by rw [Deep.nblk_setCell]; omega) _⟩
        by_cases hjk : j = k
        · subst hjk; simp
        · rw [if_neg hjk]
          by_cases h2 : j < k
          · rw [if_pos h2, if_pos (by omega)]
          · rw [if_neg h2, if_neg (by omega)]
      case measure => simp [intOf]; omega
    · have hrow' : wr.rowIs (w.heap.size + 1 + 1 + 1) 22 n (fun j => .float .f64 (bs j).comm) := hrow.congr (fun j hj => by rw [if_pos (by omega)])
      have B0 := (W3_boxes w tol rise win every b).below hbel (Nat.le_refl _)
      have HB0 := hide B0
      have HR := hide hrow'
      have HL := hide (((W3_below w tol rise win every b)).trans (hbel.mono (by omega)))
      obtain ⟨m0, m1, m2, m3, b0, b1, b2, b3, b4, b5, b6, z0, z1, z2, z3, z4, z5, z6, fb, fz, lt0⟩ := B0
      have hlt3 := hrow.lt
      clear hrow hrow' hbel hmk
      go_wp2_with fail
      refine (comm_any tol rise win every b.num b.share (w.heap.size + 1 + 1 + 1) n (fun j => (bs j).comm) wr (tolOk_of HT.out) HA.out.1 HA.out.2.1 h1 hwn hw4 hn h2 hnum hnum2 HA.out.2.2.1 HA.out.2.2.2.1 HR.out HA.out.2.2.2.2).mono ?_
      rintro e w1 ⟨rfl, hb1⟩
      obtain ⟨hc0, hci⟩ := commOut_ok rise b.share win every b.num n (fun j => (bs j).comm) HA.out.1 HA.out.2.1 h1 hwn hw4 HA.out.2.2.1 HA.out.2.2.2.1 HA.out.2.2.2.2
      have HC := hide (And.intro hc0 hci)
      clear m0 m1 m2 m3 b0 b1 b2 b3 b4 b5 b6 z0 z1 z2 z3 z4 z5 z6 fb fz lt0 hc0 hci
      generalize hcq : commOut rise b.share win every b.num n (fun j => (bs j).comm) = c at *
      have HQ := hide hcq
      clear hcq
      have HL1 := hide (HL.out.trans (hb1.mono HL.out.size))
      obtain ⟨m0, m1, m2, m3, b0, b1, b2, b3, b4, b5, b6, z0, z1, z2, z3, z4, z5, z6, fb, fz, lt0⟩ := HB0.out.below hb1 (by omega)
      clear HL hb1 HB0 HR
      have lt1 : w.heap.size + 1 < w1.heap.size := by omega
      have lt2 : w.heap.size < w1.heap.size := by omega
      go_wp2_with fail
      cases hmul : Ieee.double.mul c target with
      | some d =>
        refine (diff_calls c target d hmul _).mono ?_
        rintro e w2 ⟨rfl, rfl⟩
        have HM := hide hmul
        clear hmul
        go_wp2_with fail
        refine (hash_any tol rise b.share c win every HT.out HA.out.2.2.2.1 HC.out.1 HC.out.2 _).mono ?_
        rintro e w3 ⟨rfl, rfl⟩
        generalize hhq : hashOut tol b.share c = hh
        have HH := hide hhq
        clear hhq
        go_wp2_with fail
        refine bodyPost_ret (v := .tuple #[.agg #[.int .i64 b.num, .float .f64 b.start, .float .f64 b.share, .float .f64 hh, .float .f64 c, .float .f64 d, .float .f64 b.expd], .nilIface])
          (by simp [results, Tryf.results9, go_sem, m0, m1, m2, m3, b0, b1, b2, b3, b4, b5, b6, z0, z1, z2, z3, z4, z5, z6, fb, fz, lt0, lt1, lt2]) rfl ⟨d, ?_, ?_, ?_⟩
        · rw [HQ.out, HH.out]
        · rw [HQ.out]; exact Or.inl HM.out
        · exact stores10 HL1.out _ _ _ _ _ _ _ _ _ _ _
      | none =>
        refine (diff_nan c target hmul _).mono ?_
        rintro e w2 ⟨rfl, rfl⟩
        have HM := hide hmul
        clear hmul
        have HN := hide (nanOf_nan (w1.setCell ⟨w.heap.size + 1, 4, none⟩ (.float .f64 c)) c target)
        generalize nanOf (w1.setCell ⟨w.heap.size + 1, 4, none⟩ (.float .f64 c)) c target = dn at *
        go_wp2_with fail
        refine (hash_any tol rise b.share c win every HT.out HA.out.2.2.2.1 HC.out.1 HC.out.2 _).mono ?_
        rintro e w3 ⟨rfl, rfl⟩
        generalize hhq : hashOut tol b.share c = hh
        have HH := hide hhq
        clear hhq
        go_wp2_with fail
        refine bodyPost_ret (v := .tuple #[.agg #[.int .i64 b.num, .float .f64 b.start, .float .f64 b.share, .float .f64 hh, .float .f64 c, .float .f64 dn, .float .f64 b.expd], .nilIface])
          (by simp [results, Tryf.results9, go_sem, m0, m1, m2, m3, b0, b1, b2, b3, b4, b5, b6, z0, z1, z2, z3, z4, z5, z6, fb, fz, lt0, lt1, lt2]) rfl ⟨dn, ?_, ?_, ?_⟩
        · rw [HQ.out, HH.out]
        · rw [HQ.out]; exact Or.inr ⟨HM.out, HN.out⟩
        · exact (stores10 HL1.out _ _ _ _ _ _ _ _ _ _ _).drew

end Go.Proofs.Qxb6619576aFmt

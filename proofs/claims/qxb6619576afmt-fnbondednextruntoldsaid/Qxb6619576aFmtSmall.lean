/-
  Seat b6619576aF: the walks of the small functions: Check (25), Difficulty (21), HashRate (22), sameF (10), the size test (7), cloneFloats (8).
-/
import Derived.Test.Qxb6619576aFmtRows
import Derived.Test.Qxb6619576aFmtPlain
import Derived.WalkKit
import Derived.WalkSpells
import Derived.WalkLawsBesides
import Derived.Laws.FloatArith
import Derived.Deep.Light
import Derived.Deep.OwnRows
namespace Go.Proofs.Qxb6619576aFmt
open Go.RowKit
set_option linter.unusedSimpArgs false

theorem hide {p : Prop} (h : p) : Hid p := h
theorem ret_bool {a b : Bool} (h : a = b) : Ending.returned (.bool a) = .returned (.bool b) := by rw [h]

/-! ### the order and the operations, in the walk's spelling -/
theorem o_lt {x y : Nat} (h : x < y) (hy : y ≤ Fl.INF) : FloatKind.f64.format.order x y = some .lt := Fl.order_lt h hy
theorem o_gt {x y : Nat} (h : y < x) (hx : x ≤ Fl.INF) : FloatKind.f64.format.order x y = some .gt := Fl.order_gt h hx
theorem o_eq {x : Nat} (h : x ≤ Fl.INF) : FloatKind.f64.format.order x x = some .eq := Fl.order_self h

/-- A store of a float into a cell (the kit has this law for integers, bools, pointers, slices, strings). -/
theorem run_store_float {P : Program} {w : World} {a : Addr} {m : Mode} (k : FloatKind) (n : Nat) : (store a (.float k n) m).run P w = stored P w a (.float k n) m := run_store P w a _ m rfl
attribute [local go_sem] run_store_float

section
variable {P : Program} (w : World)
theorem run_min_f (ts : Array TypeId) (t : TypeId) (x y : Nat) (hx : x ≤ Fl.INF) (hy : y ≤ Fl.INF) : (Builtin.min_ ts t #[.float .f64 x, .float .f64 y]).run P w = .ok (.float .f64 (min x y)) w := by
  rcases Nat.lt_trichotomy x y with h | h | h
  · simp [Builtin.min_, Builtin.min2, o_lt h hy, Nat.min_eq_left (Nat.le_of_lt h)]
  · subst h; simp [Builtin.min_, Builtin.min2, o_eq hx]
  · simp [Builtin.min_, Builtin.min2, o_gt h hx, Nat.min_eq_right (Nat.le_of_lt h)]
theorem run_max_f (ts : Array TypeId) (t : TypeId) (x y : Nat) (hx : x ≤ Fl.INF) (hy : y ≤ Fl.INF) : (Builtin.max_ ts t #[.float .f64 x, .float .f64 y]).run P w = .ok (.float .f64 (max x y)) w := by
  rcases Nat.lt_trichotomy x y with h | h | h
  · simp [Builtin.max_, Builtin.max2, o_lt h hy, Nat.max_eq_right (Nat.le_of_lt h)]
  · subst h; simp [Builtin.max_, Builtin.max2, o_eq hx]
  · simp [Builtin.max_, Builtin.max2, o_gt h hx, Nat.max_eq_left (Nat.le_of_lt h)]
end

/-- Is the tolerance 0 or more? -/
def TolOk (t : Nat) : Prop := FloatKind.f64.format.order t 0 = some .gt ∨ FloatKind.f64.format.order t 0 = some .eq
def RiseOk (r : Nat) : Prop := FloatKind.f64.format.order r 4607182418800017408 = some .gt ∨ FloatKind.f64.format.order r 4607182418800017408 = some .eq

def minerCells (tol rise : Nat) (window every : Int) : Array Value := #[.float .f64 tol, .float .f64 rise, .int .i64 window, .int .i64 every]

set_option maxHeartbeats 400000 in
theorem check_calls (tol rise : Nat) (window every : Int) (ht : TolOk tol) (hr : RiseOk rise) (h1 : 1 ≤ window) (h2 : 1 ≤ every) (w : World) :
    Calls Tryf.prog 25 #[.agg #[.float .f64 tol, .float .f64 rise, .int .i64 window, .int .i64 every]] w fun e w' => e = .returned .nilIface ∧ w' = w.alloc (.cells #[.float .f64 tol, .float .f64 rise, .int .i64 window, .int .i64 every] 27) := by
  rcases ht with ht | ht <;> rcases hr with hr | hr
  all_goals
    go_enter Tryf.func25, Tryf.ntmps25
    go_wp2_with fail
    go_ret
    exact ⟨rfl, rfl⟩

set_option maxHeartbeats 400000 in
theorem diff_calls (c t r : Nat) (h : Ieee.double.mul c t = some r) (w : World) :
    Calls Tryf.prog 21 #[.float .f64 c, .float .f64 t] w fun e w' => e = .returned (.float .f64 r) ∧ w' = w := by
  have hm := fun (wx : World) => run_float_arith (P := Tryf.prog) wx .mul 22 .f64 c t r h
  clear h
  go_enter Tryf.func21, Tryf.ntmps21
  go_wp2_with fail
  go_ret
  exact ⟨rfl, rfl⟩

/-- A NaN's bits. -/
def IsNan (x : Nat) : Prop := Fl.INF < x % 9223372036854775808
/-- The bits that the tape gives where a product is no number. -/
def nanOf (w : World) (c t : Nat) : Nat := (Question.nanBits .f64 c t).cut (w.tape w.drawn (.nanBits .f64 c t))
theorem nanOf_nan (w : World) (c t : Nat) : IsNan (nanOf w c t) := by
  unfold IsNan nanOf Question.cut
  rw [Fl.INF_eq]
  generalize w.tape w.drawn (.nanBits .f64 c t) = x
  show 9218868437227405312 < (x % 2 * 9223372036854775808 + 9218868437227405312 + 1 + x / 2 % 4503599627370495) % 9223372036854775808
  have h1 : x / 2 % 4503599627370495 < 4503599627370495 := Nat.mod_lt _ (by omega)
  generalize x / 2 % 4503599627370495 = q at *
  rcases Nat.mod_two_eq_zero_or_one x with e | e <;> rw [e] <;> omega
theorem nan_run (c t : Nat) (h : Ieee.double.mul c t = none) (w : World) : (binOp .mul 22 (.float .f64 c) (.float .f64 t)).run Tryf.prog w = .ok (.float .f64 (nanOf w c t)) w.drew := by
  have h' : FloatKind.f64.format.mul c t = none := h
  simp [binOp, Op.floatArith, h', Question.forced, nanOf]

set_option maxHeartbeats 400000 in
theorem diff_nan (c t : Nat) (h : Ieee.double.mul c t = none) (w : World) :
    Calls Tryf.prog 21 #[.float .f64 c, .float .f64 t] w fun e w' => e = .returned (.float .f64 (nanOf w c t)) ∧ w' = w.drew := by
  have hm := fun (wx : World) => nan_run c t h wx
  clear h
  go_enter Tryf.func21, Tryf.ntmps21
  go_wp2_with fail
  go_ret
  exact ⟨rfl, rfl⟩

/-- What HashRate gives. -/
def hashW (tol share c : Nat) : Nat := min (max share (Fl.lowW tol c)) (Fl.highW tol c)
/-- Is the tolerance below 1? -/
def Small (t : Nat) : Prop := t < Fl.ONE ∨ t = Fl.MZ
theorem small_order {t : Nat} (h : Small t) : FloatKind.f64.format.order t 4607182418800017408 = some .lt := by
  rcases h with h | h
  · exact o_lt h (Nat.le_of_lt Fl.ONE_lt)
  · subst h; exact Fl.order_mz (Nat.le_of_lt Fl.ONE_lt) (by decide)

set_option maxHeartbeats 400000 in
theorem hash_big (tol rise share c : Nat) (window every : Int) (ht : Fl.ONE ≤ tol) (hti : tol ≤ Fl.INF) (w : World) :
    Calls Tryf.prog 22 #[.agg #[.float .f64 tol, .float .f64 rise, .int .i64 window, .int .i64 every], .float .f64 share, .float .f64 c] w fun e w' =>
      e = .returned (.float .f64 share) ∧ w' = w.alloc (.cells #[.float .f64 tol, .float .f64 rise, .int .i64 window, .int .i64 every] 27) := by
  rcases Nat.lt_or_eq_of_le ht with h | h
  · have ho : FloatKind.f64.format.order tol 4607182418800017408 = some .gt := o_gt h hti
    clear ht hti h
    go_enter Tryf.func22, Tryf.ntmps22
    go_wp2_with fail
    go_ret
    exact ⟨rfl, rfl⟩
  · have ho : FloatKind.f64.format.order tol 4607182418800017408 = some .eq := by rw [← h]; exact o_eq (Nat.le_of_lt Fl.ONE_lt)
    clear ht hti h
    go_enter Tryf.func22, Tryf.ntmps22
    go_wp2_with fail
    go_ret
    exact ⟨rfl, rfl⟩

set_option maxHeartbeats 400000 in
theorem hash_small (tol rise share c : Nat) (window every : Int) (ht : Small tol) (hs : share ≤ Fl.INF) (hc : 0 < c) (hci : c ≤ Fl.INF) (w : World) :
    Calls Tryf.prog 22 #[.agg #[.float .f64 tol, .float .f64 rise, .int .i64 window, .int .i64 every], .float .f64 share, .float .f64 c] w fun e w' =>
      e = .returned (.float .f64 (hashW tol share c)) ∧ w' = w.alloc (.cells #[.float .f64 tol, .float .f64 rise, .int .i64 window, .int .i64 every] 27) := by
  have ho := small_order ht
  obtain ⟨b1, b2, _, _, _, _⟩ := Fl.band ht
  obtain ⟨c1, c2, c3, c4, c5⟩ := Fl.band_ok ht hc hci
  have r1 := fun (wx : World) => run_float_arith (P := Tryf.prog) wx .sub 22 .f64 4607182418800017408 tol _ b1
  have r2 := fun (wx : World) => run_float_arith (P := Tryf.prog) wx .add 22 .f64 4607182418800017408 tol _ b2
  have r3 := fun (wx : World) => run_float_arith (P := Tryf.prog) wx .mul 22 .f64 _ c _ c1
  have r4 := fun (wx : World) => run_float_arith (P := Tryf.prog) wx .mul 22 .f64 _ c _ c2
  have r5 := fun (wx : World) => run_max_f (P := Tryf.prog) wx #[22, 22] 22 share (Fl.lowW tol c) hs (by omega)
  have r6 := fun (wx : World) => run_min_f (P := Tryf.prog) wx #[22, 22] 22 (max share (Fl.lowW tol c)) (Fl.highW tol c) (by omega) c5
  clear b1 b2 c1 c2 c3 c4 c5 ht hs hc hci
  go_enter Tryf.func22, Tryf.ntmps22
  go_wp2_with fail
  go_ret
  exact ⟨rfl, rfl⟩

set_option maxHeartbeats 400000 in
theorem same_nan (a b : Nat) (ha : IsNan a) (hb : IsNan b) (w : World) :
    Calls Tryf.prog 10 #[.float .f64 a, .float .f64 b] w fun e w' => e = .returned (.bool true) ∧ w' = w := by
  have h1 : FloatKind.f64.format.order a a = none := Fl.order_nan ha a
  have h2 : FloatKind.f64.format.order b b = none := Fl.order_nan hb b
  clear ha hb
  go_enter Tryf.func10, Tryf.ntmps10
  go_wp2_with fail
  go_ret
  exact ⟨rfl, rfl⟩

set_option maxHeartbeats 400000 in
theorem same_eq (c t r : Nat) (h : Ieee.double.mul c t = some r) (w : World) :
    Calls Tryf.prog 10 #[.float .f64 r, .float .f64 r] w fun e w' => e = .returned (.bool true) ∧ w' = w := by
  obtain ⟨h1, h2⟩ := Fl.mul_self h
  have h1' : FloatKind.f64.format.order r r = some .eq := h1
  clear h h1
  by_cases h0 : Ieee.double.order r 0 = some .eq
  · rcases h2 h0 with e | e
    · subst e
      have r1 := fun (wx : World) => run_float_arith (P := Tryf.prog) wx .quo 22 .f64 4607182418800017408 0 _ Fl.inv_zero
      have r2 : FloatKind.f64.format.order Fl.INF Fl.INF = some .eq := o_eq (Nat.le_refl _)
      clear h2 h0
      go_enter Tryf.func10, Tryf.ntmps10
      go_wp2_with fail
      go_ret
      exact ⟨rfl, rfl⟩
    · have r1 := fun (wx : World) => run_float_arith (P := Tryf.prog) wx .quo 22 .f64 4607182418800017408 r _ (by rw [e]; exact Fl.inv_mz)
      have r2 : FloatKind.f64.format.order (9223372036854775808 + Fl.INF) (9223372036854775808 + Fl.INF) = some .eq := Fl.order_ninf
      have h0' : FloatKind.f64.format.order r 0 = some .eq := h0
      generalize 9223372036854775808 + Fl.INF = q at *
      clear h2 h0 e
      go_enter Tryf.func10, Tryf.ntmps10
      go_wp2_with fail
      go_ret
      exact ⟨rfl, rfl⟩
  · have h0' : (FloatKind.f64.format.order r 0 == some Ordering.eq) = false := by
      rw [beq_eq_false_iff_ne]; exact h0
    clear h2 h0
    go_enter Tryf.func10, Tryf.ntmps10
    go_wp2_with fail
    go_ret
    exact ⟨rfl, rfl⟩

set_option maxHeartbeats 400000 in
theorem bytes_calls (f0 f1 f6 : Nat) (i2 i3 : Int) (a b : Option Addr) (n n' m m' : Nat) (hn : n ≤ maxLen) (hm : m ≤ maxLen) (w : World) :
    Calls Tryf.prog 7 #[.float .f64 f0, .float .f64 f1, .int .i64 i2, .int .i64 i3, .slice a n n', .slice b m m', .float .f64 f6] w fun e w' => e = .returned (.bool (decide (n + m ≤ 1048576))) ∧ w' = w := by
  unfold maxLen at hn hm
  by_cases h1 : n ≤ 1048576
  · by_cases h2 : m ≤ 1048576
    · by_cases h3 : n + m ≤ 1048576
      · go_enter Tryf.func7, Tryf.ntmps7
        go_wp2_with fail
        go_ret
        exact ⟨ret_bool (by simp [h3]), rfl⟩
      · go_enter Tryf.func7, Tryf.ntmps7
        go_wp2_with fail
        go_ret
        exact ⟨ret_bool (by simp [h3]), rfl⟩
    · go_enter Tryf.func7, Tryf.ntmps7
      go_wp2_with fail
      go_ret
      exact ⟨ret_bool (by rw [decide_eq_false (by omega)]), rfl⟩
  · go_enter Tryf.func7, Tryf.ntmps7
    go_wp2_with fail
    go_ret
    exact ⟨ret_bool (by rw [decide_eq_false (by omega)]), rfl⟩

theorem info22 : (Tryf.prog.info? 22).map (fun i => (i.zero, i.size, i.bytes)) = some (some (.float .f64 0), 1, 8) := by kernel_rfl

set_option maxHeartbeats 400000 in
theorem clone_nil (w : World) : Calls Tryf.prog 8 #[.slice none 0 0] w fun e w' => e = .returned (.slice none 0 0) ∧ w' = w := by
  have hne : ∀ wx : World, (binOp .eql 23 (.slice none 0 0) (.slice none 0 0)).run Tryf.prog wx = .ok (.bool true) wx := fun wx => by
    simpa using Lib.run_eql_slice_nil (P := Tryf.prog) wx 23 22 none 0 0 0 0 Tryf.underlying23
  go_enter Tryf.func8, Tryf.ntmps8
  go_wp2_with fail
  go_ret
  exact ⟨rfl, rfl⟩

set_option maxHeartbeats 400000 in
theorem clone_some (x : Addr) (n cap : Nat) (f : Nat → Nat) (hn : n ≤ 4096) (w : World) (hc : ∀ j, j < n → w.cell? (x.add j) = some (.float .f64 (f j))) :
    Calls Tryf.prog 8 #[.slice (some x) n cap] w fun e w' => e = .returned (.slice (some ⟨w.heap.size, 0, none⟩) n n) ∧ w'.rowIs w.heap.size 22 n (fun j => .float .f64 (f j)) ∧ Below w.heap.size w w' := by
  have hmk := fun (wx : World) => run_make_row' (P := Tryf.prog) 23 22 (.float .f64 0) 8 Tryf.underlying23 info22 rfl .i64 .i64 n (by omega) (by omega) wx
  have hne : ∀ wx : World, (binOp .eql 23 (.slice (some x) n cap) (.slice none 0 0)).run Tryf.prog wx = .ok (.bool false) wx := fun wx => by
    simpa using Lib.run_eql_slice_nil (P := Tryf.prog) wx 23 22 (some x) n cap 0 0 Tryf.underlying23
  go_enter Tryf.func8, Tryf.ntmps8
  go_wp2_with fail
  go_loopw [4] (fun i wr => ∃ k : Nat, k ≤ n ∧ i = .int .i64 k ∧ wr.rowIs w.heap.size 22 n (fun j => .float .f64 (if j < k then f j else 0)) ∧ Below w.heap.size w wr)
    (fun i _ => n - (intOf i).toNat)
  case atStart => exact ⟨0, Nat.zero_le _, rfl, (World.rowIs_made w _ n 22).congr (fun j _ => by simp), (Below.refl _ _).alloc (Nat.le_refl _) _⟩
  case round =>
    obtain ⟨k, hk, rfl, hrow, hbel⟩ := hrel
    by_cases hlt : k < n
    · have hck := hc k hlt
      have hcell : wr.cell? (x.add k) = some (.float .f64 (f k)) := (hbel.cell (World.block_lt_of_cell? w _ hck)).trans hck
      have hold := hrow.cell hlt
      have hfro := hrow.frozen k
      have HR := hide hrow
      have HB := hide hbel
      clear hrow hbel hc hmk hne hck
      go_wp2_with fail
      go_roundw
      case rel =>
        refine ⟨k + 1, by omega, by go_num, (HR.out.set k (.float .f64 (f k))).congr (fun j hj => ?_), HB.out.setCell (Nat.le_refl _) _⟩
        by_cases hjk : j = k
        · subst hjk; simp
        · rw [if_neg hjk]
          by_cases h2 : j < k
          · rw [if_pos h2, if_pos (by omega)]
          · rw [if_neg h2, if_neg (by omega)]
      case measure => simp [intOf]; omega
    · clear hne hmk hc
      go_wp2_with fail
      go_ret
      exact ⟨rfl, hrow.congr (fun j hj => by rw [if_pos (by omega)]), hbel⟩

end Go.Proofs.Qxb6619576aFmt

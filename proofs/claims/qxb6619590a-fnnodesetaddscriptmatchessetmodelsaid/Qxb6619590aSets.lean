/-
  Seat b6619590a: a nodeSet as it lies in memory; met (28), holds (29) and the views (11 to 19).
-/
import Derived.Test.Qxb6619590aMaps
namespace Go.Proofs.Qxb6619590a
open Go.RowKit
set_option linter.unusedSimpArgs false

theorem eq_s0 (w : World) : Sem.run Try.prog (binOp BinOp.eql 59 (.slice none 0 0) (.slice none 0 0)) w = .ok (.bool true) w := by kernel_rfl
theorem eq_s1 (w : World) (a : Addr) (n m : Nat) : Sem.run Try.prog (binOp BinOp.eql 59 (.slice (some a) n m) (.slice none 0 0)) w = .ok (.bool false) w := by kernel_rfl
theorem eq_m0 (w : World) : Sem.run Try.prog (binOp BinOp.eql 58 (.map none) (.map none)) w = .ok (.bool true) w := by kernel_rfl
theorem eq_m1 (w : World) (B : Nat) : Sem.run Try.prog (binOp BinOp.eql 58 (.map (some B)) (.map none)) w = .ok (.bool false) w := by kernel_rfl
attribute [local go_sem] eq_s0 eq_s1 eq_m0 eq_m1

/-- The three cells of a nodeSet. -/
def c3 (a b c : Value) (i : Nat) : Value := if i = 0 then a else if i = 1 then b else c

theorem c3_new (w : World) (a b c : Value) : (w.alloc (.cells #[a, b, c] 61)).rowIs w.heap.size 61 3 (c3 a b c) :=
  World.rowIs_alloc w #[a, b, c] 61 (c3 a b c) (fun i hi => by
    have h : i = 0 ∨ i = 1 ∨ i = 2 := by simp at hi; omega
    rcases h with rfl | rfl | rfl <;> rfl)

/-- Where the set's nodes lie. -/
inductive Mode where
  | nil
  | few (B : Nat)
  | many (B : Nat)

/-- The state of a node. -/
def st (met held : Nat → Bool) (j : Nat) : Int := if held j then 2 else if met j then 1 else 0

/-- A nodeSet at block Bs, its store at a block from lo on. -/
def NS (w : World) (Bs lo n : Nat) (met held : Nat → Bool) (cnt : Nat) : Mode → Prop
  | .nil => w.rowIs Bs 61 3 (c3 (.map none) (.slice none 0 0) (.int .i64 0)) ∧ cnt = 0 ∧ (∀ k, met k = false) ∧ ∀ k, held k = false
  | .few B => w.rowIs Bs 61 3 (c3 (.map (some B)) (.slice none 0 0) (.int .i64 cnt)) ∧ lo ≤ B ∧ Few w B met held cnt
  | .many B => w.rowIs Bs 61 3 (c3 (.map none) (.slice (some ⟨B, 0, none⟩) n n) (.int .i64 cnt)) ∧ lo ≤ B ∧ w.rowIs B 64 n (fun j => .int .u8 (st met held j))

theorem NS.kept {w w' : World} {Bs lo n cnt : Nat} {met held : Nat → Bool} {m : Mode} (h : NS w Bs lo n met held cnt m) (e : w'.heap[Bs]? = w.heap[Bs]?) (e2 : ∀ i, lo ≤ i → i < w.heap.size → w'.heap[i]? = w.heap[i]?) :
    NS w' Bs lo n met held cnt m := by
  cases m with
  | nil => exact ⟨h.1.of_block e, h.2⟩
  | few B => exact ⟨h.1.of_block e, h.2.1, h.2.2.of_block (e2 B h.2.1 h.2.2.lt)⟩
  | many B => exact ⟨h.1.of_block e, h.2.1, h.2.2.of_block (e2 B h.2.1 h.2.2.lt)⟩

variable {w : World} {Bs lo n cnt : Nat} {met held : Nat → Bool}

theorem st_met (hh : ∀ k, held k = true → met k = true) (k : Nat) : (st met held k != 0) = met k := by
  unfold st
  cases h1 : held k
  · cases h2 : met k <;> rfl
  · rw [hh k h1]; rfl
theorem st_held (k : Nat) : (st met held k == 2) = held k := by
  unfold st
  cases h1 : held k
  · cases h2 : met k <;> rfl
  · rfl

theorem met_calls {m : Mode} (h : NS w Bs lo n met held cnt m) (hh : ∀ k, held k = true → met k = true) (hn : n ≤ 262144) {k : Nat} (hk : k < n) :
    Calls Try.prog 28 #[.pointer (some ⟨Bs, 0, none⟩), .int .i32 (k : Int)] w fun e w' => e = .returned (.bool (met k)) ∧ w' = w := by
  cases m with
  | nil =>
    obtain ⟨hr, -, hm, -⟩ := h
    have c0 := hr.cell (i := 0) (by decide)
    have c1 := hr.cell (i := 1) (by decide)
    simp only [c3] at c0 c1
    have hl := look_none_ok w (k := k) (by omega)
    rw [hm k]
    clear hr hm
    go_enter Try.func28, Try.ntmps28
    go_wp2_with fail
    go_ret
    exact ⟨rfl, rfl⟩
  | few B =>
    obtain ⟨hr, -, hf⟩ := h
    have c0 := hr.cell (i := 0) (by decide)
    have c1 := hr.cell (i := 1) (by decide)
    simp only [c3] at c0 c1
    have hl := hf.look_ok (k := k) (by omega)
    clear hr hf
    go_enter Try.func28, Try.ntmps28
    go_wp2_with fail
    go_ret
    exact ⟨rfl, rfl⟩
  | many B =>
    obtain ⟨hr, -, hf⟩ := h
    have c1 := hr.cell (i := 1) (by decide)
    simp only [c3] at c1
    have hl := hf.cell hk
    have hs := st_met hh k
    clear hr hf
    generalize st met held k = s at *
    go_enter Try.func28, Try.ntmps28
    go_wp2_with fail
    go_ret
    exact ⟨rfl, rfl⟩

theorem holds_calls {m : Mode} (h : NS w Bs lo n met held cnt m) (hn : n ≤ 262144) {k : Nat} (hk : k < n) :
    Calls Try.prog 29 #[.pointer (some ⟨Bs, 0, none⟩), .int .i32 (k : Int)] w fun e w' => e = .returned (.bool (held k)) ∧ w' = w := by
  cases m with
  | nil =>
    obtain ⟨hr, -, -, hm⟩ := h
    have c0 := hr.cell (i := 0) (by decide)
    have c1 := hr.cell (i := 1) (by decide)
    simp only [c3] at c0 c1
    have hl := look_none w (k := k) (by omega)
    rw [hm k]
    clear hr hm
    go_enter Try.func29, Try.ntmps29
    go_wp2_with fail
    go_ret
    exact ⟨rfl, rfl⟩
  | few B =>
    obtain ⟨hr, -, hf⟩ := h
    have c0 := hr.cell (i := 0) (by decide)
    have c1 := hr.cell (i := 1) (by decide)
    simp only [c3] at c0 c1
    have hl := hf.look (k := k) (by omega)
    clear hr hf
    go_enter Try.func29, Try.ntmps29
    go_wp2_with fail
    go_ret
    exact ⟨rfl, rfl⟩
  | many B =>
    obtain ⟨hr, -, hf⟩ := h
    have c1 := hr.cell (i := 1) (by decide)
    simp only [c3] at c1
    have hl := hf.cell hk
    have hs := st_held (met := met) (held := held) k
    clear hr hf
    generalize st met held k = s at *
    go_enter Try.func29, Try.ntmps29
    go_wp2_with fail
    go_ret
    exact ⟨rfl, rfl⟩

/-- 'v' lies in the mode's third cell whatever the mode. -/
theorem ns_n {m : Mode} (h : NS w Bs lo n met held cnt m) : w.cell? ⟨Bs, 2, none⟩ = some (.int .i64 cnt) := by
  cases m with
  | nil => rw [h.2.1]; exact h.1.cell (by decide)
  | few B => exact h.1.cell (by decide)
  | many B => exact h.1.cell (by decide)

theorem zzn_calls {m : Mode} (h : NS w Bs lo n met held cnt m) : Calls Try.prog 11 #[.pointer (some ⟨Bs, 0, none⟩)] w fun e w' => e = .returned (.int .i64 cnt) ∧ w' = w := by
  have c2 := ns_n h
  clear h
  go_enter Try.func11, Try.ntmps11
  go_wp2_with fail
  go_ret
  exact ⟨rfl, rfl⟩

theorem zzmet_calls {m : Mode} (h : NS w Bs lo n met held cnt m) (hh : ∀ k, held k = true → met k = true) (hn : n ≤ 262144) {k : Nat} (hk : k < n) :
    Calls Try.prog 12 #[.pointer (some ⟨Bs, 0, none⟩), .int .i32 (k : Int)] w fun e w' => e = .returned (.bool (met k)) ∧ w' = w := by
  go_enter Try.func12, Try.ntmps12
  go_wp2_with fail
  refine (met_calls h hh hn hk).mono ?_
  rintro e w' ⟨rfl, rfl⟩
  go_wp2_with fail
  go_ret
  exact ⟨rfl, rfl⟩

theorem zzholds_calls {m : Mode} (h : NS w Bs lo n met held cnt m) (hn : n ≤ 262144) {k : Nat} (hk : k < n) :
    Calls Try.prog 13 #[.pointer (some ⟨Bs, 0, none⟩), .int .i32 (k : Int)] w fun e w' => e = .returned (.bool (held k)) ∧ w' = w := by
  go_enter Try.func13, Try.ntmps13
  go_wp2_with fail
  refine (holds_calls h hn hk).mono ?_
  rintro e w' ⟨rfl, rfl⟩
  go_wp2_with fail
  go_ret
  exact ⟨rfl, rfl⟩

def Mode.isMany : Mode → Bool
  | .many _ => true
  | _ => false
def Mode.isFew : Mode → Bool
  | .few _ => true
  | _ => false

theorem manynil_calls {m : Mode} (h : NS w Bs lo n met held cnt m) : Calls Try.prog 14 #[.pointer (some ⟨Bs, 0, none⟩)] w fun e w' => e = .returned (.bool (!m.isMany)) ∧ w' = w := by
  cases m
  all_goals
    have c1 := h.1.cell (i := 1) (by decide)
    simp only [c3] at c1
    clear h
    go_enter Try.func14, Try.ntmps14
    go_wp2_with fail
    go_ret
    exact ⟨rfl, rfl⟩

theorem fewnil_calls {m : Mode} (h : NS w Bs lo n met held cnt m) : Calls Try.prog 15 #[.pointer (some ⟨Bs, 0, none⟩)] w fun e w' => e = .returned (.bool (!m.isFew)) ∧ w' = w := by
  cases m
  all_goals
    have c1 := h.1.cell (i := 0) (by decide)
    simp only [c3] at c1
    clear h
    go_enter Try.func15, Try.ntmps15
    go_wp2_with fail
    go_ret
    exact ⟨rfl, rfl⟩

theorem manylen_calls {B : Nat} (h : NS w Bs lo n met held cnt (.many B)) : Calls Try.prog 16 #[.pointer (some ⟨Bs, 0, none⟩)] w fun e w' => e = .returned (.int .i64 n) ∧ w' = w := by
  have c1 := h.1.cell (i := 1) (by decide)
  simp only [c3] at c1
  clear h
  go_enter Try.func16, Try.ntmps16
  go_wp2_with fail
  go_ret
  exact ⟨rfl, rfl⟩

theorem manyat_calls {B : Nat} (h : NS w Bs lo n met held cnt (.many B)) {k : Nat} (hk : k < n) : Calls Try.prog 17 #[.pointer (some ⟨Bs, 0, none⟩), .int .i64 (k : Int)] w fun e w' => e = .returned (.int .u8 (st met held k)) ∧ w' = w := by
  have c1 := h.1.cell (i := 1) (by decide)
  simp only [c3] at c1
  have hl := h.2.2.cell hk
  clear h
  generalize st met held k = s at *
  go_enter Try.func17, Try.ntmps17
  go_wp2_with fail
  go_ret
  exact ⟨rfl, rfl⟩

theorem fewlen_calls {B : Nat} (h : NS w Bs lo n met held cnt (.few B)) : Calls Try.prog 18 #[.pointer (some ⟨Bs, 0, none⟩)] w fun e w' => e = .returned (.int .i64 cnt) ∧ w' = w := by
  have c1 := h.1.cell (i := 0) (by decide)
  simp only [c3] at c1
  have hl := fun ty => h.2.2.len ty
  clear h
  go_enter Try.func18, Try.ntmps18
  go_wp2_with fail
  go_ret
  exact ⟨rfl, rfl⟩

theorem fewat_calls {B : Nat} (h : NS w Bs lo n met held cnt (.few B)) {k : Nat} (hk : k < 2147483648) : Calls Try.prog 19 #[.pointer (some ⟨Bs, 0, none⟩), .int .i32 (k : Int)] w fun e w' => e = .returned (.tuple #[.bool (held k), .bool (met k)]) ∧ w' = w := by
  have c1 := h.1.cell (i := 0) (by decide)
  simp only [c3] at c1
  have hl := h.2.2.look_ok hk
  clear h
  go_enter Try.func19, Try.ntmps19
  go_wp2_with fail
  go_ret2
  exact ⟨rfl, rfl⟩

end Go.Proofs.Qxb6619590a

/-
  Seat b6619365a: the walks of the small functions: printable (8), printableOctet (6), the size test (4), printableOctets (7), ZZprintableOctets (5).
-/
import Derived.Test.Qxb6619365aRows
import Derived.WalkKit
import Derived.WalkSpells
import Derived.WalkLawsBesides
import Derived.Deep.Light
import Derived.Deep.OwnRows
namespace Go.Proofs.Qxb6619365a
open Go.RowKit
set_option linter.unusedSimpArgs false

theorem hide {p : Prop} (h : p) : Hid p := h
theorem ret_int {k : IntKind} {a b : Int} (h : a = b) : Ending.returned (.int k a) = .returned (.int k b) := by rw [h]
theorem ret_bool {a b : Bool} (h : a = b) : Ending.returned (.bool a) = .returned (.bool b) := by rw [h]

/-- An octet as printable returns it. -/
def pr (c : Int) : Int := if 32 ≤ c ∧ c ≤ 126 then c else 63
theorem pr_lo (c : Int) : 32 ≤ pr c := by unfold pr; split <;> omega
theorem pr_hi (c : Int) : pr c ≤ 126 := by unfold pr; split <;> omega
theorem pr_in {c : Int} (h : 32 ≤ c) (h2 : c ≤ 126) : pr c = c := by unfold pr; rw [if_pos ⟨h, h2⟩]
theorem pr_out {c : Int} (h : ¬ (32 ≤ c ∧ c ≤ 126)) : pr c = 63 := by unfold pr; rw [if_neg h]
theorem pr_pr (c : Int) : pr (pr c) = pr c := pr_in (pr_lo c) (pr_hi c)

theorem info5 : (Try.prog.info? 5).map (fun i => (i.zero, i.size, i.bytes)) = some (some (.int .u8 0), 1, 1) := by kernel_rfl

set_option maxHeartbeats 400000 in
theorem printable_calls (c : Int) (h0 : 0 ≤ c) (h1 : c ≤ 255) (w : World) :
    Calls Try.prog 8 #[.int .i32 c] w fun e w' => e = .returned (.int .u8 (pr c)) ∧ w' = w := by
  by_cases hl : 32 ≤ c
  · by_cases hh : c ≤ 126
    · rw [pr_in hl hh]
      go_enter Try.func8, Try.ntmps8
      go_wp2
      go_ret
      exact ⟨rfl, rfl⟩
    · rw [pr_out (by omega)]
      go_enter Try.func8, Try.ntmps8
      go_wp2
      go_ret
      exact ⟨rfl, rfl⟩
  · rw [pr_out (by omega)]
    go_enter Try.func8, Try.ntmps8
    go_wp2
    go_ret
    exact ⟨rfl, rfl⟩

/-- Is it printable? -/
def isPr (c : Int) : Bool := decide (32 ≤ c ∧ c ≤ 126)
set_option maxHeartbeats 400000 in
theorem octet_calls (c : Int) (w : World) :
    Calls Try.prog 6 #[.int .u8 c] w fun e w' => e = .returned (.bool (isPr c)) ∧ w' = w := by
  by_cases hl : 32 ≤ c
  · go_enter Try.func6, Try.ntmps6
    go_wp2
    go_ret
    exact ⟨ret_bool (by simp [isPr, hl]), rfl⟩
  · go_enter Try.func6, Try.ntmps6
    go_wp2
    go_ret
    exact ⟨ret_bool (by unfold isPr; rw [decide_eq_false (by omega)]), rfl⟩

set_option maxHeartbeats 400000 in
theorem bytes_calls (a : Option Addr) (len cap : Nat) (k : Int) (hl : len ≤ maxLen) (w : World) :
    Calls Try.prog 4 #[.slice a len cap, .int .i64 k] w fun e w' => e = .returned (.bool (decide (len ≤ 1048576))) ∧ w' = w := by
  unfold maxLen at hl
  by_cases h : len ≤ 1048576
  · go_enter Try.func4, Try.ntmps4
    go_wp2
    go_ret
    exact ⟨ret_bool (by simp [h]), rfl⟩
  · go_enter Try.func4, Try.ntmps4
    go_wp2
    go_ret
    exact ⟨ret_bool (by simp [h]), rfl⟩

/-- The slice's elements: where there are any, its address is plain and below the heap's end, and cell j holds the octet f j. -/
def Octs (w : World) (a : Option Addr) (len : Nat) (f : Nat → Int) : Prop :=
  0 < len → ∃ b off, a = some ⟨b, off, none⟩ ∧ b < w.heap.size ∧ ∀ j, j < len → w.cell? ⟨b, off + j, none⟩ = some (.int .u8 (f j))

set_option maxHeartbeats 400000 in
theorem octets_calls (a : Option Addr) (len cap : Nat) (f : Nat → Int) (hf : ∀ j, 0 ≤ f j ∧ f j ≤ 255) (hl : len ≤ 1048576) (w : World) (ho : Octs w a len f) :
    Calls Try.prog 7 #[.slice a len cap] w fun e w' => e = .returned (.slice (some ⟨w.heap.size, 0, none⟩) len len) ∧ w'.rowIs w.heap.size 5 len (fun j => .int .u8 (pr (f j))) ∧ Below w.heap.size w w' := by
  have hmk := fun (wx : World) => run_make_row' (P := Try.prog) 22 5 (.int .u8 0) 1 Try.underlying22 info5 rfl .i64 .i64 len (by omega) (by omega) wx
  by_cases h0 : len = 0
  · subst h0
    clear hmk
    have hmk0 : ∀ wx : World, (Instr.makeSlice 22 (.int .i64 0) (.int .i64 0)).run Try.prog wx = .ok (.slice (some ⟨wx.heap.size, 0, none⟩) 0 0) (wx.alloc (.cells (madeCells #[.int .u8 0] 0) 5)) :=
      fun wx => run_make_row' (P := Try.prog) 22 5 (.int .u8 0) 1 Try.underlying22 info5 rfl .i64 .i64 0 (by omega) (by omega) wx
    go_enter Try.func7, Try.ntmps7
    go_wp2
    refine wp_loop_rounds 1 ?_
    rw [rounds_succ]
    go_wp2
    go_ret
    exact ⟨rfl, (World.rowIs_made w _ 0 5).congr (fun j hj => absurd hj (by omega)), (Below.refl _ _).alloc (Nat.le_refl _) _⟩
  · obtain ⟨b, off, rfl, hb, hc⟩ := ho (by omega)
    go_enter Try.func7, Try.ntmps7
    go_wp2
    go_loopw [11] (fun i wr => ∃ k : Nat, k ≤ len ∧ i = .int .i64 k ∧ wr.rowIs w.heap.size 5 len (fun j => .int .u8 (if j < k then pr (f j) else 0)) ∧ Below w.heap.size w wr)
      (fun i _ => len - (intOf i).toNat)
    case atStart => exact ⟨0, Nat.zero_le _, rfl, (World.rowIs_made w _ len 5).congr (fun j _ => by simp), (Below.refl _ _).alloc (Nat.le_refl _) _⟩
    case round =>
      obtain ⟨k, hk, rfl, hrow, hbel⟩ := hrel
      by_cases hlt : k < len
      · have hcell : wr.cell? ⟨b, off + k, none⟩ = some (.int .u8 (f k)) := (hbel.cell (by exact hb)).trans (hc k hlt)
        have hfk := hf k
        have hold := hrow.cell hlt
        have hfro := hrow.frozen k
        have HR := hide hrow
        have HB := hide hbel
        clear hrow hbel hc hmk
        go_wp2_with (go_at_call 8; refine (printable_calls _ (by omega) (by omega) _).mono ?_; rintro e w' ⟨rfl, rfl⟩)
        go_roundw
        case rel =>
          refine ⟨k + 1, by omega, by go_num, (HR.out.set k (.int .u8 (pr (f k)))).congr (fun j hj => ?_), HB.out.setCell (Nat.le_refl _) _⟩
          by_cases hjk : j = k
          · subst hjk; simp
          · rw [if_neg hjk]
            by_cases h2 : j < k
            · rw [if_pos h2, if_pos (by omega)]
            · rw [if_neg h2, if_neg (by omega)]
        case measure => simp [intOf]; omega
      · go_wp2
        go_ret
        exact ⟨rfl, hrow.congr (fun j hj => by rw [if_pos (by omega)]), hbel⟩

set_option maxHeartbeats 400000 in
theorem zz_calls (a : Option Addr) (len cap : Nat) (f : Nat → Int) (hf : ∀ j, 0 ≤ f j ∧ f j ≤ 255) (hl : len ≤ 1048576) (w : World) (ho : Octs w a len f) :
    Calls Try.prog 5 #[.slice a len cap] w fun e w' => e = .returned (.slice (some ⟨w.heap.size, 0, none⟩) len len) ∧ w'.rowIs w.heap.size 5 len (fun j => .int .u8 (pr (f j))) ∧ Below w.heap.size w w' := by
  go_enter Try.func5, Try.ntmps5
  go_wp2_with fail
  refine (octets_calls a len cap f hf hl w ho).mono ?_
  rintro e w' ⟨rfl, hr, hb⟩
  have HR := hide hr
  have HB := hide hb
  clear hr hb
  go_wp2_with fail
  go_ret
  exact ⟨rfl, HR.out, HB.out⟩

end Go.Proofs.Qxb6619365a

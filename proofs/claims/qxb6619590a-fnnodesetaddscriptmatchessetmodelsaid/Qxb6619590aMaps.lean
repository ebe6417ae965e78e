/-
  Seat b6619590a: the map of a nodeSet: map[int32]bool, as the law's model has it.
-/
import Derived.Test.Qxb6619590aChecked
import Derived.WalkKit
import Derived.WalkSpells
import Derived.WalkLawsBesides
import Derived.Deep.Light
import Derived.Maps.OwnOps
import Derived.Maps.OwnSet
import Derived.Maps.RangeWalk
import Derived.Deep.OwnRows
namespace Go.Proofs.Qxb6619590a
open Go.Maps Go.RowKit

theorem klaw : Keyed Try.prog 21 := int_keyed Try.underlying21
theorem zero4 (w : World) : (zeroValue 4).run Try.prog w = .ok (.bool false) w := by kernel_rfl

/-- What reads as a bool's datum IS that bool. -/
theorem plainElem_bool_inv {H : Type} {v : Value} {z : DataW H × List MemPlace} (h : plainElem Try.prog 4 v = some z) : ∃ a, v = .bool a ∧ z = (.lit (.bool a), []) := by
  unfold plainElem at h
  rw [Try.underlying4] at h
  cases v <;> simp at h
  exact ⟨_, rfl, h.symm⟩

/-- The key of a node. -/
def nk (k : Nat) : Lit := .int .i32 (k : Int)
theorem nk_wf {k : Nat} (h : k < 2147483648) : (Lit.int .i32 (k : Int)).wf = true :=
  WalkArith.wf_i32 (by omega)
theorem nk_key {k : Nat} (h : k < 2147483648) : keyOf Try.prog 21 (.int .i32 (k : Int)) = some (nk k) := keyOf_int_mk Try.underlying21 (nk_wf h)
theorem nk_inj {a b : Nat} (h : nk a = nk b) : a = b := by
  unfold nk at h
  injection h with _ h
  exact Int.ofNat.inj h
theorem nk_is (k : Nat) : WideAt.IsKeyLit (nk k) := by
  unfold nk; simp [WideAt.IsKeyLit]
theorem nk_same (k : Nat) : (nk k).sameKey (nk k) = true := by
  simp [nk, Lit.sameKey]

/-- f with x at k. -/
def upd (f : Nat → Bool) (k : Nat) (x : Bool) (j : Nat) : Bool := if j = k then x else f j
theorem upd_same (f : Nat → Bool) (k : Nat) (x : Bool) : upd f k x k = x := if_pos rfl
theorem upd_other (f : Nat → Bool) (x : Bool) {j k : Nat} (h : ¬ j = k) : upd f k x j = f j := if_neg h

/-- THE MAP OF A nodeSet: the nodes met, each with whether it is held. -/
def Few (w : World) (B : Nat) (met held : Nat → Bool) (cnt : Nat) : Prop :=
  ∃ D : DataW Unit, w.ownsMap Try.prog 21 (plainElem Try.prog 4) B cnt D ∧ (∀ k, Maps.has D (nk k) = met k) ∧ (∀ k, D.atKey (nk k) (.lit (.bool false)) = .lit (.bool (held k))) ∧ Maps.size D = cnt ∧
    ∀ kl, Maps.has D kl = true → ∃ k : Nat, kl = nk k

theorem few_made (w : World) : Few (w.alloc (.map #[] 0)) w.heap.size (fun _ => false) (fun _ => false) 0 :=
  ⟨.map [], World.ownsMap_made w _ _ _, fun _ => rfl, fun _ => rfl, rfl, fun kl h => by simp [Maps.has] at h⟩

theorem Few.look {w : World} {B cnt : Nat} {met held : Nat → Bool} (h : Few w B met held cnt) {k : Nat} (hk : k < 2147483648) :
    (Instr.lookup 58 (.map (some B)) (.int .i32 (k : Int)) false).run Try.prog w = .ok (.bool (held k)) w := by
  obtain ⟨D, hown, _, hat, _⟩ := h
  obtain ⟨v, ps, hrun, hv⟩ := hown.lookup klaw Try.underlying58 (zero4 w) (plainElem_bool Try.underlying4 false) (nk_key hk)
  obtain ⟨a, rfl, ha⟩ := plainElem_bool_inv hv
  rw [hat k] at ha
  simp at ha
  rw [hrun, ha.1]

theorem Few.look_ok {w : World} {B cnt : Nat} {met held : Nat → Bool} (h : Few w B met held cnt) {k : Nat} (hk : k < 2147483648) :
    (Instr.lookup 58 (.map (some B)) (.int .i32 (k : Int)) true).run Try.prog w = .ok (.tuple #[.bool (held k), .bool (met k)]) w := by
  obtain ⟨D, hown, hhas, hat, _⟩ := h
  obtain ⟨v, ps, hrun, hv⟩ := hown.look_ok klaw Try.underlying58 (zero4 w) (plainElem_bool Try.underlying4 false) (nk_key hk)
  obtain ⟨a, rfl, ha⟩ := plainElem_bool_inv hv
  rw [hat k] at ha
  simp at ha
  rw [hrun, ha.1, hhas k]

theorem look_none (w : World) {k : Nat} (hk : k < 2147483648) : (Instr.lookup 58 (.map none) (.int .i32 (k : Int)) false).run Try.prog w = .ok (.bool false) w :=
  Maps.look_nil false klaw Try.underlying58 (zero4 w) (nk_key hk)
theorem look_none_ok (w : World) {k : Nat} (hk : k < 2147483648) : (Instr.lookup 58 (.map none) (.int .i32 (k : Int)) true).run Try.prog w = .ok (.tuple #[.bool false, .bool false]) w :=
  Maps.look_nil true klaw Try.underlying58 (zero4 w) (nk_key hk)

theorem Few.len {w : World} {B cnt : Nat} {met held : Nat → Bool} (h : Few w B met held cnt) (ty : TypeId) : (Builtin.len_ #[58] ty #[.map (some B)]).run Try.prog w = .ok (.int .i64 cnt) w := by
  obtain ⟨D, hown, _, _, hs, _⟩ := h
  rw [hown.len Try.underlying58 ty, hs]

theorem Few.lt {w : World} {B cnt : Nat} {met held : Nat → Bool} (h : Few w B met held cnt) : B < w.heap.size := by
  obtain ⟨D, hown, _⟩ := h
  exact hown.lt

theorem Few.of_block {w w' : World} {B cnt : Nat} {met held : Nat → Bool} (h : Few w B met held cnt) (e : w'.heap[B]? = w.heap[B]?) : Few w' B met held cnt := by
  obtain ⟨D, ⟨es, clock, hb, r⟩, r2⟩ := h
  exact ⟨D, ⟨es, clock, e.trans hb, r⟩, r2⟩

/-- 'm[k] = v'. -/
theorem Few.store {w : World} {B cnt : Nat} {met held : Nat → Bool} (h : Few w B met held cnt) {k : Nat} (hk : k < 2147483648) (hc : cnt < maxLen) (x : Bool) :
    ∃ w', (Instr.mapUpdate 58 (.map (some B)) (.int .i32 (k : Int)) (.bool x)).run Try.prog w = .ok () w' ∧ Few w' B (upd met k true) (upd held k x) (if met k then cnt else cnt + 1) ∧ w.grownBy w' (some B) ∧ w'.heap.size = w.heap.size := by
  obtain ⟨D, hown, hhas, hat, hs, hall⟩ := h
  obtain ⟨w', hrun, hown', hturn⟩ := hown.store klaw Try.underlying58 hc (nk_key hk) (plainElem_bool Try.underlying4 x)
  have hsz : Maps.size (D.put (nk k) (.lit (.bool x))) = if met k then cnt else cnt + 1 := by
    rw [Maps.size_put (hown.tidy klaw), hhas k, hs]
  refine ⟨w', hrun, ⟨_, ?_, fun j => ?_, fun j => ?_, hsz, fun kl hkl => ?_⟩, hturn.grown, ?_⟩
  · obtain ⟨es, clock, hb, F, _, hD⟩ := hown'
    refine ⟨es, clock, hb, F, ?_, hD⟩
    rw [← hsz, hD]
    simp [Maps.size, length_sorted]
  · by_cases e : j = k
    · subst e; rw [upd_same]; exact Maps.has_put_same hown.isMap (nk_is _) _
    · rw [upd_other _ _ e, Maps.has_put_other (fun h => e (nk_inj h)), hhas j]
  · by_cases e : j = k
    · subst e; rw [upd_same]; exact Maps.atKey_put_same hown.isMap (nk_is _) _ _
    · rw [upd_other _ _ e, Maps.atKey_put_other (fun h => e (nk_inj h)), hat j]
  · by_cases e : kl = nk k
    · exact ⟨k, e⟩
    · rw [Maps.has_put_other e] at hkl; exact hall kl hkl
  · obtain ⟨es, clock, es', clock', hb, rfl⟩ := hturn
    simp [ChangeMaps.setBlock]

end Go.Proofs.Qxb6619590a

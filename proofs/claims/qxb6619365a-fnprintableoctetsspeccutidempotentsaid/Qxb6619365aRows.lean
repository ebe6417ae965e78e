/-
  No cell of these rows narrows 'for every input' (looked for: loops, veiled, ifaces, maps, wideKeys, modest, calm, conditions, laid).
  DERIVED. THE GIVEN ROWS OF THIS SEAT. 1 by the template 'for every input the law returns true; each argument reads behind the call as it read before'; 0 by the template 'total and deterministic' (their statements: Qxb6619365aTotals.lean).
  GIVEN WITH THE SEED: the statements are not yours to turn. If you find one false, say at which input.
  Laid BY PROGRAM, IN A SANDBOX (cutbox-rows.mjs): the forced cells as the released guide's own fill.sh prints them over the translation 6b8746e22c4bc1b8… (all of the seat's roots in one cut). By AI agents, Wed Nov 11 2026. No macro, syntax, notation, axiom, sorry.
-/
import Derived.Test.Qxb6619365aChecked
import GoSem.Claim
import GoSem.ClaimJoined
import GoSem.ClaimMapViews
import Derived.JoinedTies
import Derived.KernelRfl
namespace Go.Proofs.Qxb6619365a
/- THE CELL 'sum', in the pinned program and in every row, IS THE sha256 OF THE DUMP (.gsa) THAT Qxb6619365aProg.lean LOADS. Nothing in Lean hashes anything: it is a label: what it is worth is what the hold of that sum in a sandbox is worth. -/
noncomputable def Try.pinned : Pinned := { name := "qxb6619365a", sum := "6b8746e22c4bc1b8d0bd3caa7a16ddcd6989d0dfc4202d47438dbe5f5d66a002", checked := Try.checked }
namespace Rows
def none {H : Type} : Left H := { results := [], args := [] }

/-- 'zzlaws_pkg_router_b1.FnPrintableOctetsSpecCutIdempotent': WHATEVER THE INPUT: true; the input reads as it did. -/
def fnPrintableOctetsSpecCutIdempotentSpec : ChangeSpec := { name := "fnPrintableOctetsSpecCutIdempotent", fn := fun _ => fun
  | [d1, d2] => { results := [.lit (.bool true)], args := [d1, d2] }
  | _ => none }
def fnPrintableOctetsSpecCutIdempotentRow : OpenClaim := { program := "qxb6619365a", sum := "6b8746e22c4bc1b8d0bd3caa7a16ddcd6989d0dfc4202d47438dbe5f5d66a002", func := "example.com/shortwire/shortwire/zzlaws_pkg_router_b1.FnPrintableOctetsSpecCutIdempotent", spec := "fnPrintableOctetsSpecCutIdempotent", apart := false }
def FnPrintableOctetsSpecCutIdempotentSaid : Prop := fnPrintableOctetsSpecCutIdempotentRow.holds Try.pinned (OpenSpec.ofChange fnPrintableOctetsSpecCutIdempotentSpec)

/-- ITS FALSE NEIGHBOUR: 'it returns false'. Refute it at one input. -/
def fnPrintableOctetsSpecCutIdempotentWrong : ChangeSpec := { name := "fnPrintableOctetsSpecCutIdempotent", fn := fun _ => fun
  | [d1, d2] => { results := [.lit (.bool false)], args := [d1, d2] }
  | _ => none }
def FnPrintableOctetsSpecCutIdempotentWrongFalsely : Prop := fnPrintableOctetsSpecCutIdempotentRow.holds Try.pinned (OpenSpec.ofChange fnPrintableOctetsSpecCutIdempotentWrong)

end Rows
end Go.Proofs.Qxb6619365a

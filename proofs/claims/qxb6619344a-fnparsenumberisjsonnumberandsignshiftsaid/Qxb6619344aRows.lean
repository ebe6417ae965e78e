/-
  No cell of these rows narrows 'for every input' (looked for: loops, veiled, ifaces, maps, wideKeys, modest, calm, conditions, laid).
  DERIVED. THE GIVEN ROWS OF THIS SEAT. 2 by the template 'for every input the law returns true; each argument reads behind the call as it read before'; 0 by the template 'total and deterministic' (their statements: Qxb6619344aTotals.lean).
  GIVEN WITH THE SEED: the statements are not yours to turn. If you find one false, say at which input.
  Laid BY PROGRAM, IN A SANDBOX (cutbox-rows.mjs): the forced cells as the released guide's own fill.sh prints them over the translation 395033ac7ed91b83… (all of the seat's roots in one cut). By AI agents, Wed Nov 11 2026. No macro, syntax, notation, axiom, sorry.
-/
import Derived.Test.Qxb6619344aChecked
import GoSem.Claim
import GoSem.ClaimJoined
import GoSem.ClaimMapViews
import Derived.JoinedTies
import Derived.KernelRfl
namespace Go.Proofs.Qxb6619344a
/- THE CELL 'sum', in the pinned program and in every row, IS THE sha256 OF THE DUMP (.gsa) THAT Qxb6619344aProg.lean LOADS. Nothing in Lean hashes anything: it is a label: what it is worth is what the hold of that sum in a sandbox is worth. -/
noncomputable def Try.pinned : Pinned := { name := "qxb6619344a", sum := "395033ac7ed91b833fea1a84ec1a0e63a6f5e6f26a21849932a90226a3337725", checked := Try.checked }
namespace Rows
def none {H : Type} : Left H := { results := [], args := [] }

/-- 'zzlaws_internal_value_b1.FnScanNumberIsLongestViablePrefix': WHATEVER THE INPUT: true; the input reads as it did. -/
def fnScanNumberIsLongestViablePrefixSpec : ChangeSpec := { name := "fnScanNumberIsLongestViablePrefix", fn := fun _ => fun
  | [d] => { results := [.lit (.bool true)], args := [d] }
  | _ => none }
def fnScanNumberIsLongestViablePrefixRow : OpenClaim := { program := "qxb6619344a", sum := "395033ac7ed91b833fea1a84ec1a0e63a6f5e6f26a21849932a90226a3337725", func := "example.com/decree/decree/zzlaws_internal_value_b1.FnScanNumberIsLongestViablePrefix", spec := "fnScanNumberIsLongestViablePrefix", unfollowed := true, recurses := true, apart := false }
def FnScanNumberIsLongestViablePrefixSaid : Prop := fnScanNumberIsLongestViablePrefixRow.holds Try.pinned (OpenSpec.ofChange fnScanNumberIsLongestViablePrefixSpec)

/-- ITS FALSE NEIGHBOUR: 'it returns false'. Refute it at one input. -/
def fnScanNumberIsLongestViablePrefixWrong : ChangeSpec := { name := "fnScanNumberIsLongestViablePrefix", fn := fun _ => fun
  | [d] => { results := [.lit (.bool false)], args := [d] }
  | _ => none }
def FnScanNumberIsLongestViablePrefixWrongFalsely : Prop := fnScanNumberIsLongestViablePrefixRow.holds Try.pinned (OpenSpec.ofChange fnScanNumberIsLongestViablePrefixWrong)

/-- 'zzlaws_internal_value_b1.FnParseNumberIsJSONNumberAndSignShift': WHATEVER THE INPUT: true; the input reads as it did. -/
def fnParseNumberIsJSONNumberAndSignShiftSpec : ChangeSpec := { name := "fnParseNumberIsJSONNumberAndSignShift", fn := fun _ => fun
  | [d] => { results := [.lit (.bool true)], args := [d] }
  | _ => none }
def fnParseNumberIsJSONNumberAndSignShiftRow : OpenClaim := { program := "qxb6619344a", sum := "395033ac7ed91b833fea1a84ec1a0e63a6f5e6f26a21849932a90226a3337725", func := "example.com/decree/decree/zzlaws_internal_value_b1.FnParseNumberIsJSONNumberAndSignShift", spec := "fnParseNumberIsJSONNumberAndSignShift", unfollowed := true, recurses := true, apart := false }
def FnParseNumberIsJSONNumberAndSignShiftSaid : Prop := fnParseNumberIsJSONNumberAndSignShiftRow.holds Try.pinned (OpenSpec.ofChange fnParseNumberIsJSONNumberAndSignShiftSpec)

/-- ITS FALSE NEIGHBOUR: 'it returns false'. Refute it at one input. -/
def fnParseNumberIsJSONNumberAndSignShiftWrong : ChangeSpec := { name := "fnParseNumberIsJSONNumberAndSignShift", fn := fun _ => fun
  | [d] => { results := [.lit (.bool false)], args := [d] }
  | _ => none }
def FnParseNumberIsJSONNumberAndSignShiftWrongFalsely : Prop := fnParseNumberIsJSONNumberAndSignShiftRow.holds Try.pinned (OpenSpec.ofChange fnParseNumberIsJSONNumberAndSignShiftWrong)

end Rows
end Go.Proofs.Qxb6619344a

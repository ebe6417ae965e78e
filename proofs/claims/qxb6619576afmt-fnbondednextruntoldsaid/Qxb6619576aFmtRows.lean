/-
  No cell of these rows narrows 'for every input' (looked for: loops, veiled, ifaces, maps, wideKeys, modest, calm, conditions, laid).
  DERIVED. THE GIVEN ROWS OF THIS SEAT. 4 by the template 'for every input the law returns true; each argument reads behind the call as it read before'; 0 by the template 'total and deterministic' (their statements: Qxb6619576aFmtTotals.lean).
  GIVEN WITH THE SEED: the statements are not yours to turn. If you find one false, say at which input.
  Laid BY PROGRAM, IN A SANDBOX (cutbox-rows.mjs): the forced cells as the released guide's own fill.sh prints them over the translation f2097c4ed019ff83… (all of the seat's roots in one cut). By AI agents, Wed Nov 11 2026. No macro, syntax, notation, axiom, sorry.
-/
import Derived.Test.Qxb6619576aFmtChecked
import GoSem.Claim
import GoSem.ClaimJoined
import GoSem.ClaimMapViews
import Derived.JoinedTies
import Derived.KernelRfl
namespace Go.Proofs.Qxb6619576aFmt
/- THE CELL 'sum', in the pinned program and in every row, IS THE sha256 OF THE DUMP (.gsa) THAT Qxb6619576aFmtProg.lean LOADS. Nothing in Lean hashes anything: it is a label: what it is worth is what the hold of that sum in a sandbox is worth. -/
noncomputable def Tryf.pinned : Pinned := { name := "qxb6619576afmt", sum := "f2097c4ed019ff83106d446501e86694682271fcde4e10f1c84baf234511a22c", checked := Tryf.checked }
namespace Rows
def none {H : Type} : Left H := { results := [], args := [] }

/-- 'zzlaws_sim_e1.FnBondedNextRun': WHATEVER THE INPUT: true; the input reads as it did. -/
def fnBondedNextRunSpec : ChangeSpec := { name := "fnBondedNextRun", fn := fun _ => fun
  | [d1, d2, d3, d4, d5, d6, d7] => { results := [.lit (.bool true)], args := [d1, d2, d3, d4, d5, d6, d7] }
  | _ => none }
def fnBondedNextRunRow : OpenClaim := { program := "qxb6619576afmt", sum := "f2097c4ed019ff83106d446501e86694682271fcde4e10f1c84baf234511a22c", func := "example.com/protolith/protolith/zzlaws_sim_e1.FnBondedNextRun", spec := "fnBondedNextRun", stops := ["fmt.errorf"], inPlace := ["fmt.errorf"], apart := false }
/-- NO THEOREM (fmt's text is open here; it may be false): for the released tool's asking of the row's closed facts alone. THE STATEMENT IS 'FnBondedNextRunToldSaid' (Qxb6619576aFmtCards.lean). -/
def FnBondedNextRunFormAsk : Prop := fnBondedNextRunRow.holds Tryf.pinned (OpenSpec.ofChange fnBondedNextRunSpec)

/-- ITS FALSE NEIGHBOUR: 'it returns false'. Refute it at one input. -/
def fnBondedNextRunWrong : ChangeSpec := { name := "fnBondedNextRun", fn := fun _ => fun
  | [d1, d2, d3, d4, d5, d6, d7] => { results := [.lit (.bool false)], args := [d1, d2, d3, d4, d5, d6, d7] }
  | _ => none }
def FnBondedNextRunWrongFormAsk : Prop := fnBondedNextRunRow.holds Tryf.pinned (OpenSpec.ofChange fnBondedNextRunWrong)

/-- 'zzlaws_sim_e1.FnScheduleCheckExtend': WHATEVER THE INPUT: true; the input reads as it did. -/
def fnScheduleCheckExtendSpec : ChangeSpec := { name := "fnScheduleCheckExtend", fn := fun _ => fun
  | [d1, d2, d3] => { results := [.lit (.bool true)], args := [d1, d2, d3] }
  | _ => none }
def fnScheduleCheckExtendRow : OpenClaim := { program := "qxb6619576afmt", sum := "f2097c4ed019ff83106d446501e86694682271fcde4e10f1c84baf234511a22c", func := "example.com/protolith/protolith/zzlaws_sim_e1.FnScheduleCheckExtend", spec := "fnScheduleCheckExtend", stops := ["fmt.errorf"], inPlace := ["fmt.errorf"], apart := false }
/-- NO THEOREM (fmt's text is open here; it may be false): for the released tool's asking of the row's closed facts alone. THE STATEMENT IS 'FnScheduleCheckExtendToldSaid' (Qxb6619576aFmtCards.lean). -/
def FnScheduleCheckExtendFormAsk : Prop := fnScheduleCheckExtendRow.holds Tryf.pinned (OpenSpec.ofChange fnScheduleCheckExtendSpec)

/-- ITS FALSE NEIGHBOUR: 'it returns false'. Refute it at one input. -/
def fnScheduleCheckExtendWrong : ChangeSpec := { name := "fnScheduleCheckExtend", fn := fun _ => fun
  | [d1, d2, d3] => { results := [.lit (.bool false)], args := [d1, d2, d3] }
  | _ => none }
def FnScheduleCheckExtendWrongFormAsk : Prop := fnScheduleCheckExtendRow.holds Tryf.pinned (OpenSpec.ofChange fnScheduleCheckExtendWrong)

/-- 'zzlaws_sim_e1.FnScheduleCheckCut': WHATEVER THE INPUT: true; the input reads as it did. -/
def fnScheduleCheckCutSpec : ChangeSpec := { name := "fnScheduleCheckCut", fn := fun _ => fun
  | [d1, d2] => { results := [.lit (.bool true)], args := [d1, d2] }
  | _ => none }
def fnScheduleCheckCutRow : OpenClaim := { program := "qxb6619576afmt", sum := "f2097c4ed019ff83106d446501e86694682271fcde4e10f1c84baf234511a22c", func := "example.com/protolith/protolith/zzlaws_sim_e1.FnScheduleCheckCut", spec := "fnScheduleCheckCut", stops := ["fmt.errorf"], inPlace := ["fmt.errorf"], apart := false }
/-- NO THEOREM (fmt's text is open here; it may be false): for the released tool's asking of the row's closed facts alone. THE STATEMENT IS 'FnScheduleCheckCutToldSaid' (Qxb6619576aFmtCards.lean). -/
def FnScheduleCheckCutFormAsk : Prop := fnScheduleCheckCutRow.holds Tryf.pinned (OpenSpec.ofChange fnScheduleCheckCutSpec)

/-- ITS FALSE NEIGHBOUR: 'it returns false'. Refute it at one input. -/
def fnScheduleCheckCutWrong : ChangeSpec := { name := "fnScheduleCheckCut", fn := fun _ => fun
  | [d1, d2] => { results := [.lit (.bool false)], args := [d1, d2] }
  | _ => none }
def FnScheduleCheckCutWrongFormAsk : Prop := fnScheduleCheckCutRow.holds Tryf.pinned (OpenSpec.ofChange fnScheduleCheckCutWrong)

/-- 'zzlaws_sim_e1.FnScheduleCheckStep': WHATEVER THE INPUT: true; the input reads as it did. -/
def fnScheduleCheckStepSpec : ChangeSpec := { name := "fnScheduleCheckStep", fn := fun _ => fun
  | [d1, d2] => { results := [.lit (.bool true)], args := [d1, d2] }
  | _ => none }
def fnScheduleCheckStepRow : OpenClaim := { program := "qxb6619576afmt", sum := "f2097c4ed019ff83106d446501e86694682271fcde4e10f1c84baf234511a22c", func := "example.com/protolith/protolith/zzlaws_sim_e1.FnScheduleCheckStep", spec := "fnScheduleCheckStep", stops := ["fmt.errorf"], inPlace := ["fmt.errorf"], apart := false }
/-- NO THEOREM (fmt's text is open here; it may be false): for the released tool's asking of the row's closed facts alone. THE STATEMENT IS 'FnScheduleCheckStepToldSaid' (Qxb6619576aFmtCards.lean). -/
def FnScheduleCheckStepFormAsk : Prop := fnScheduleCheckStepRow.holds Tryf.pinned (OpenSpec.ofChange fnScheduleCheckStepSpec)

/-- ITS FALSE NEIGHBOUR: 'it returns false'. Refute it at one input. -/
def fnScheduleCheckStepWrong : ChangeSpec := { name := "fnScheduleCheckStep", fn := fun _ => fun
  | [d1, d2] => { results := [.lit (.bool false)], args := [d1, d2] }
  | _ => none }
def FnScheduleCheckStepWrongFormAsk : Prop := fnScheduleCheckStepRow.holds Tryf.pinned (OpenSpec.ofChange fnScheduleCheckStepWrong)

end Rows
end Go.Proofs.Qxb6619576aFmt

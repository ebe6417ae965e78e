/-
  DERIVED. GIVEN WITH THE SEED: THE CARDS: each row of Qxb6619576aFmtRows.lean that lists a variable, with what it lists TIED to the program's text (the seventh form; the later family's looks); each row that meets fmt, with fmt's text TOLD by the authors' own Lean function (tested against real Go, not proved from fmt's source: count such statements apart). THE CARD IS WHAT COUNTS. Prove the row's statement (the work); the ties are given (Qxb6619576aFmtTie.lean); close each card by the builder's one call (the guide's Derived/Test/ToyasCard.lean, 'card_holds'). Laid BY PROGRAM, IN A SANDBOX (cutbox-door.mjs). By AI agents, Wed Nov 11 2026. No macro, syntax, notation, axiom, sorry.
-/
import Derived.Test.Qxb6619576aFmtRows
import GoSem.ClaimSeven
namespace Go.Proofs.Qxb6619576aFmt
namespace Rows

/-- THE TOLD CARD OF 'zzlaws_sim_e1.FnBondedNextRun'. -/
def fnBondedNextRunCard : Claim7 := { stood := { row := fnBondedNextRunRow, standIns := [], harness := (true, "b5d62f812f6f7861e139101307080ec29b0e0414d062aaf60374353ebb058bda"), looks := false }, told := true, goes := false }
def FnBondedNextRunToldSaid : Prop := Claim7.holds Tryf.pinned (.plain (OpenSpec.ofChange fnBondedNextRunSpec)) fnBondedNextRunCard
/-- ITS FALSE NEIGHBOUR. Refute it at one input. -/
def FnBondedNextRunToldWrongFalsely : Prop := Claim7.holds Tryf.pinned (.plain (OpenSpec.ofChange fnBondedNextRunWrong)) fnBondedNextRunCard

/-- THE TOLD CARD OF 'zzlaws_sim_e1.FnScheduleCheckExtend'. -/
def fnScheduleCheckExtendCard : Claim7 := { stood := { row := fnScheduleCheckExtendRow, standIns := [], harness := (true, "b5d62f812f6f7861e139101307080ec29b0e0414d062aaf60374353ebb058bda"), looks := false }, told := true, goes := false }
def FnScheduleCheckExtendToldSaid : Prop := Claim7.holds Tryf.pinned (.plain (OpenSpec.ofChange fnScheduleCheckExtendSpec)) fnScheduleCheckExtendCard
/-- ITS FALSE NEIGHBOUR. Refute it at one input. -/
def FnScheduleCheckExtendToldWrongFalsely : Prop := Claim7.holds Tryf.pinned (.plain (OpenSpec.ofChange fnScheduleCheckExtendWrong)) fnScheduleCheckExtendCard

/-- THE TOLD CARD OF 'zzlaws_sim_e1.FnScheduleCheckCut'. -/
def fnScheduleCheckCutCard : Claim7 := { stood := { row := fnScheduleCheckCutRow, standIns := [], harness := (true, "b5d62f812f6f7861e139101307080ec29b0e0414d062aaf60374353ebb058bda"), looks := false }, told := true, goes := false }
def FnScheduleCheckCutToldSaid : Prop := Claim7.holds Tryf.pinned (.plain (OpenSpec.ofChange fnScheduleCheckCutSpec)) fnScheduleCheckCutCard
/-- ITS FALSE NEIGHBOUR. Refute it at one input. -/
def FnScheduleCheckCutToldWrongFalsely : Prop := Claim7.holds Tryf.pinned (.plain (OpenSpec.ofChange fnScheduleCheckCutWrong)) fnScheduleCheckCutCard

/-- THE TOLD CARD OF 'zzlaws_sim_e1.FnScheduleCheckStep'. -/
def fnScheduleCheckStepCard : Claim7 := { stood := { row := fnScheduleCheckStepRow, standIns := [], harness := (true, "b5d62f812f6f7861e139101307080ec29b0e0414d062aaf60374353ebb058bda"), looks := false }, told := true, goes := false }
def FnScheduleCheckStepToldSaid : Prop := Claim7.holds Tryf.pinned (.plain (OpenSpec.ofChange fnScheduleCheckStepSpec)) fnScheduleCheckStepCard
/-- ITS FALSE NEIGHBOUR. Refute it at one input. -/
def FnScheduleCheckStepToldWrongFalsely : Prop := Claim7.holds Tryf.pinned (.plain (OpenSpec.ofChange fnScheduleCheckStepWrong)) fnScheduleCheckStepCard
end Rows
end Go.Proofs.Qxb6619576aFmt

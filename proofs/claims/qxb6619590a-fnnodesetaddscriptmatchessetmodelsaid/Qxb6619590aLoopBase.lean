/-
  Seat b6619590a: the loops of the law, found by their number.
-/
import Derived.Test.Qxb6619590aQuiet
namespace Go.Proofs.Qxb6619590a
open Go.RowKit
set_option linter.unusedSimpArgs false
set_option linter.unusedVariables false
attribute [local go_sem] eq_s0 eq_s1 eq_m0 eq_m1

/-- The loops of a body, outermost first, in the text's order. -/
def allLoops : Code → List Code
  | .loop c => [c]
  | .seq a b => allLoops a ++ allLoops b
  | .block _ c => allLoops c
  | .scope c => allLoops c
  | .cond _ a b => allLoops a ++ allLoops b
  | _ => []

end Go.Proofs.Qxb6619590a

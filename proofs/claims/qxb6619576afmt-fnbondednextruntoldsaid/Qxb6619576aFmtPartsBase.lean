/-
  Seat b6619576aF: for the law's main loop, cut into declarations: how a piece of the function's code is found by its number.
-/
import Derived.Test.Qxb6619576aFmtHelp
import Derived.Deep.QuietTactic
import Derived.BigQuiet
import Derived.Deep.CutBlock
namespace Go.Proofs.Qxb6619576aFmt

/-- A positive word, no NaN. -/
def Pos (x : Nat) : Prop := 0 < x ∧ x ≤ Fl.INF

/-- The loops of a body, outermost first, in the text's order. -/
def allLoops : Code → List Code
  | .loop c => [c]
  | .seq a b => allLoops a ++ allLoops b
  | .block _ c => allLoops c
  | .scope c => allLoops c
  | .cond _ a b => allLoops a ++ allLoops b
  | _ => []

/-- The 'if's whose test lies in slot n. -/
def condAt (n : Nat) : Code → List Code
  | .cond (.tmp k) a b => if k = n then [.cond (.tmp k) a b] else condAt n a ++ condAt n b
  | .cond _ a b => condAt n a ++ condAt n b
  | .loop c => condAt n c
  | .seq a b => condAt n a ++ condAt n b
  | .block _ c => condAt n c
  | .scope c => condAt n c
  | _ => []

/-- The regions of number n. -/
def regionAt (n : Nat) : Code → List Code
  | .region k ops d => if k = n then [.region k ops d] else []
  | .cond _ a b => regionAt n a ++ regionAt n b
  | .loop c => regionAt n c
  | .seq a b => regionAt n a ++ regionAt n b
  | .block _ c => regionAt n c
  | .scope c => regionAt n c
  | _ => []

end Go.Proofs.Qxb6619576aFmt

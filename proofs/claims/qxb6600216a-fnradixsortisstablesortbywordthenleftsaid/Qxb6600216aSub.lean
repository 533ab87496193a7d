import Derived.Test.Qxb6600216aMs
import Derived.Test.Qxb6600216aLay
namespace Go.Proofs.Qxb6600216a
open Go.RowKit

/-- A piece of a body. -/
def sub : List Nat → Code → Code
  | 0 :: p, .seq a _ => sub p a
  | 1 :: p, .seq _ b => sub p b
  | 0 :: p, .block _ c => sub p c
  | 0 :: p, .loop c => sub p c
  | 0 :: p, .cond _ a _ => sub p a
  | 1 :: p, .cond _ _ b => sub p b
  | _, c => c
/-- The whole body. -/
def whole (f : Func) : Code := f.body.getD .skip
end Go.Proofs.Qxb6600216a

/-
  The parts of the law that are walked apart.
-/
import Derived.Test.YbulkdaieS28e
namespace Go.Proofs.Ybulkdaie.Scr
open Go.RowKit Go.Maps
set_option linter.unusedVariables false
set_option linter.unusedSimpArgs false

/-- A part of a text. -/
def nav : List Nat → Code → Code
  | [], c => c
  | 0 :: p, .seq a _ => nav p a
  | _ :: p, .seq _ b => nav p b
  | 0 :: p, .cond _ a _ => nav p a
  | _ :: p, .cond _ _ b => nav p b
  | _ :: p, .block _ c => nav p c
  | _ :: p, .loop c => nav p c
  | _ :: p, .scope c => nav p c
  | _, _ => .skip

end Go.Proofs.Ybulkdaie.Scr

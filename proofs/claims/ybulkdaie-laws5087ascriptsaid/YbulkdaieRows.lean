/-
  No cell of these rows narrows 'for every input' (looked for: loops, veiled, ifaces, maps, wideKeys, modest, calm, conditions, laid).
  DERIVED. THE GIVEN ROWS OF THIS SEAT. 2 by the template 'for every input the law returns true; each argument reads behind the call as it read before'; 0 by the template 'total and deterministic' (their statements: YbulkdaieTotals.lean).
  GIVEN WITH THE SEED: the statements are not yours to turn. If you find one false, say at which input.
  Laid BY PROGRAM, IN A SANDBOX (cutbox-rows.mjs): the forced cells as the released guide's own fill.sh prints them over the translation 6c2f4365081e023f… (all of the seat's roots in one cut). By AI agents, Wed Nov 11 2026. No macro, syntax, notation, axiom, sorry.
-/
import Derived.Test.YbulkdaieChecked
import GoSem.Claim
import GoSem.ClaimJoined
import GoSem.ClaimMapViews
import Derived.JoinedTies
import Derived.KernelRfl
namespace Go.Proofs.Ybulkdaie
/- THE CELL 'sum', in the pinned program and in every row, IS THE sha256 OF THE DUMP (.gsa) THAT YbulkdaieProg.lean LOADS. Nothing in Lean hashes anything: it is a label: what it is worth is what the hold of that sum in a sandbox is worth. -/
noncomputable def Yba.pinned : Pinned := { name := "ybulkdaie", sum := "6c2f4365081e023ffcf8aa1ae19da9c6cb3099cc51f16ef3ea35665f814ebd3f", checked := Yba.checked }
namespace Rows
def none {H : Type} : Left H := { results := [], args := [] }

/-- 'outlivedwait.LawS5087AScript': WHATEVER THE INPUT: true; the input reads as it did. -/
def lawS5087AScriptSpec : ChangeSpec := { name := "lawS5087AScript", fn := fun _ => fun
  | [d] => { results := [.lit (.bool true)], args := [d] }
  | _ => none }
def lawS5087AScriptRow : OpenClaim := { program := "ybulkdaie", sum := "6c2f4365081e023ffcf8aa1ae19da9c6cb3099cc51f16ef3ea35665f814ebd3f", func := "example.com/quorumlens/quorumlens/rule/outlivedwait.LawS5087AScript", spec := "lawS5087AScript", inPlace := ["slices.overlaps[[]example.com/quorumlens/quorumlens/rule/logstate.span]", "slices.overlaps[example.com/quorumlens/quorumlens/rule/logstate.span]"], unfollowed := true, recurses := true, plainKeys := false, apart := false }
def LawS5087AScriptSaid : Prop := lawS5087AScriptRow.holds Yba.pinned (OpenSpec.ofChange lawS5087AScriptSpec)

/-- ITS FALSE NEIGHBOUR: 'it returns false'. Refute it at one input. -/
def lawS5087AScriptWrong : ChangeSpec := { name := "lawS5087AScript", fn := fun _ => fun
  | [d] => { results := [.lit (.bool false)], args := [d] }
  | _ => none }
def LawS5087AScriptWrongFalsely : Prop := lawS5087AScriptRow.holds Yba.pinned (OpenSpec.ofChange lawS5087AScriptWrong)

/-- 'logstate.LawS5087BMarks': WHATEVER THE INPUT: true; the input reads as it did. -/
def lawS5087BMarksSpec : ChangeSpec := { name := "lawS5087BMarks", fn := fun _ => fun
  | [d1, d2, d3, d4] => { results := [.lit (.bool true)], args := [d1, d2, d3, d4] }
  | _ => none }
def lawS5087BMarksRow : OpenClaim := { program := "ybulkdaie", sum := "6c2f4365081e023ffcf8aa1ae19da9c6cb3099cc51f16ef3ea35665f814ebd3f", func := "example.com/quorumlens/quorumlens/rule/logstate.LawS5087BMarks", spec := "lawS5087BMarks", plainKeys := false, apart := false }
def LawS5087BMarksSaid : Prop := lawS5087BMarksRow.holds Yba.pinned (OpenSpec.ofChange lawS5087BMarksSpec)

/-- ITS FALSE NEIGHBOUR: 'it returns false'. Refute it at one input. -/
def lawS5087BMarksWrong : ChangeSpec := { name := "lawS5087BMarks", fn := fun _ => fun
  | [d1, d2, d3, d4] => { results := [.lit (.bool false)], args := [d1, d2, d3, d4] }
  | _ => none }
def LawS5087BMarksWrongFalsely : Prop := lawS5087BMarksRow.holds Yba.pinned (OpenSpec.ofChange lawS5087BMarksWrong)

end Rows
end Go.Proofs.Ybulkdaie

/-
  No cell of these rows narrows 'for every input' (looked for: loops, veiled, ifaces, maps, wideKeys, modest, calm, conditions, laid).
  DERIVED. THE GIVEN ROWS OF THIS SEAT. 1 by the template 'for every input the law returns true; each argument reads behind the call as it read before'; 0 by the template 'total and deterministic' (their statements: YbulkdafmTotals.lean).
  GIVEN WITH THE SEED: the statements are not yours to turn. If you find one false, say at which input.
  Laid BY PROGRAM, IN A SANDBOX (cutbox-rows.mjs): the forced cells as the released guide's own fill.sh prints them over the translation abc4ecb10fd4ef7c… (all of the seat's roots in one cut). By AI agents, Wed Nov 11 2026. No macro, syntax, notation, axiom, sorry.
-/
import Derived.Test.YbulkdafmChecked
import GoSem.Claim
import GoSem.ClaimJoined
import GoSem.ClaimMapViews
import Derived.JoinedTies
import Derived.KernelRfl
namespace Go.Proofs.Ybulkdafm
/- THE CELL 'sum', in the pinned program and in every row, IS THE sha256 OF THE DUMP (.gsa) THAT YbulkdafmProg.lean LOADS. Nothing in Lean hashes anything: it is a label: what it is worth is what the hold of that sum in a sandbox is worth. -/
noncomputable def Yba.pinned : Pinned := { name := "ybulkdafm", sum := "abc4ecb10fd4ef7c35ecc13c58c2fddae01ae7190081e36423b31646da26b890", checked := Yba.checked }
namespace Rows
def none {H : Type} : Left H := { results := [], args := [] }

/-- 'roomversion.LawS5082ACopy': WHATEVER THE INPUT: true; the input reads as it did. -/
def lawS5082ACopySpec : ChangeSpec := { name := "lawS5082ACopy", fn := fun _ => fun
  | [d] => { results := [.lit (.bool true)], args := [d] }
  | _ => none }
def lawS5082ACopyRow : OpenClaim := { program := "ybulkdafm", sum := "abc4ecb10fd4ef7c35ecc13c58c2fddae01ae7190081e36423b31646da26b890", func := "example.com/accord/accord/roomversion.LawS5082ACopy", spec := "lawS5082ACopy", recurses := true, apart := false }
def LawS5082ACopySaid : Prop := lawS5082ACopyRow.holds Yba.pinned (OpenSpec.ofChange lawS5082ACopySpec)

/-- ITS FALSE NEIGHBOUR: 'it returns false'. Refute it at one input. -/
def lawS5082ACopyWrong : ChangeSpec := { name := "lawS5082ACopy", fn := fun _ => fun
  | [d] => { results := [.lit (.bool false)], args := [d] }
  | _ => none }
def LawS5082ACopyWrongFalsely : Prop := lawS5082ACopyRow.holds Yba.pinned (OpenSpec.ofChange lawS5082ACopyWrong)

end Rows
end Go.Proofs.Ybulkdafm

/-
  No cell of these rows narrows 'for every input' (looked for: loops, veiled, ifaces, maps, wideKeys, modest, calm, conditions, laid).
  DERIVED. THE GIVEN ROWS OF THIS SEAT. 1 by the template 'for every input the law returns true; each argument reads behind the call as it read before'; 0 by the template 'total and deterministic' (their statements: YbulkdagoTotals.lean).
  GIVEN WITH THE SEED: the statements are not yours to turn. If you find one false, say at which input.
  Laid BY PROGRAM, IN A SANDBOX (cutbox-rows.mjs): the forced cells as the released guide's own fill.sh prints them over the translation 3a4c897e8f045e5a… (all of the seat's roots in one cut). By AI agents, Wed Nov 11 2026. No macro, syntax, notation, axiom, sorry.
-/
import Derived.Test.YbulkdagoChecked
import GoSem.Claim
import GoSem.ClaimJoined
import GoSem.ClaimMapViews
import Derived.JoinedTies
import Derived.KernelRfl
namespace Go.Proofs.Ybulkdago
/- THE CELL 'sum', in the pinned program and in every row, IS THE sha256 OF THE DUMP (.gsa) THAT YbulkdagoProg.lean LOADS. Nothing in Lean hashes anything: it is a label: what it is worth is what the hold of that sum in a sandbox is worth. -/
noncomputable def Yba.pinned : Pinned := { name := "ybulkdago", sum := "3a4c897e8f045e5a35d5d3a34833cb7996a8fa56774528de95de514b3949a353", checked := Yba.checked }
namespace Rows
def none {H : Type} : Left H := { results := [], args := [] }

/-- 'm3ua.LawS5084BBytes': WHATEVER THE INPUT: true; the input reads as it did. -/
def lawS5084BBytesSpec : ChangeSpec := { name := "lawS5084BBytes", fn := fun _ => fun
  | [d1, d2, d3, d4, d5, d6, d7] => { results := [.lit (.bool true)], args := [d1, d2, d3, d4, d5, d6, d7] }
  | _ => none }
def lawS5084BBytesRow : OpenClaim := { program := "ybulkdago", sum := "3a4c897e8f045e5a35d5d3a34833cb7996a8fa56774528de95de514b3949a353", func := "example.com/trunkline/trunkline/m3ua.LawS5084BBytes", spec := "lawS5084BBytes", named := ["encoding/binary.BigEndian"], apart := false }
def LawS5084BBytesSaid : Prop := lawS5084BBytesRow.holds Yba.pinned (OpenSpec.ofChange lawS5084BBytesSpec)

/-- ITS FALSE NEIGHBOUR: 'it returns false'. Refute it at one input. -/
def lawS5084BBytesWrong : ChangeSpec := { name := "lawS5084BBytes", fn := fun _ => fun
  | [d1, d2, d3, d4, d5, d6, d7] => { results := [.lit (.bool false)], args := [d1, d2, d3, d4, d5, d6, d7] }
  | _ => none }
def LawS5084BBytesWrongFalsely : Prop := lawS5084BBytesRow.holds Yba.pinned (OpenSpec.ofChange lawS5084BBytesWrong)

end Rows
end Go.Proofs.Ybulkdago

/-
  DERIVED. GIVEN WITH THE SEED: THE CARDS: each row of YbulkdagaDoorRows.lean that lists a variable, with what it lists TIED to the program's text (the seventh form; the later family's looks); each row that meets fmt, with fmt's text TOLD by the authors' own Lean function (tested against real Go, not proved from fmt's source: count such statements apart). THE CARD IS WHAT COUNTS. Prove the row's statement (the work); the ties are given (YbulkdagaDoorTie.lean); close each card by the builder's one call (the guide's Derived/Test/ToyasCard.lean, 'card_holds'). Laid BY PROGRAM, IN A SANDBOX (cutbox-door.mjs). By AI agents, Wed Nov 11 2026. No macro, syntax, notation, axiom, sorry.
-/
import Derived.Test.YbulkdagaDoorRows
import GoSem.ClaimSeven
namespace Go.Proofs.YbulkdagaDoor
namespace Rows

/-- THE TIED CARD OF 'object.LawS5083BBits'. -/
def lawS5083BBitsCard : Claim7 := { stood := { row := lawS5083BBitsRow, standIns := [], harness := (true, "265ac24699456c1a7ea0ca98f4ee628d9af8fad2911aab4edfeb21c8e4f2df1d"), looks := true }, kinds := [], alts := [], laidByText := true, laidKinds := [.sentinel, .sentinel], laidTests := true, laidLooks := .later }
def LawS5083BBitsCardSaid : Prop := Claim7.holds Ybad.pinned (.plain (OpenSpec.ofChange lawS5083BBitsSpec)) lawS5083BBitsCard
end Rows
end Go.Proofs.YbulkdagaDoor

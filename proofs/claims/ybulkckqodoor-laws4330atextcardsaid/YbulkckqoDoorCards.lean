/-
  DERIVED. GIVEN WITH THE SEED: THE CARDS: each row of YbulkckqoDoorRows.lean that lists a variable, with what it lists TIED to the program's text (the seventh form; the later family's looks); each row that meets fmt, with fmt's text TOLD by the authors' own Lean function (tested against real Go, not proved from fmt's source: count such statements apart). THE CARD IS WHAT COUNTS. Prove the row's statement (the work); the ties are given (YbulkckqoDoorTie.lean); close each card by the builder's one call (the guide's Derived/Test/ToyasCard.lean, 'card_holds'). Laid BY PROGRAM, IN A SANDBOX (cutbox-door.mjs). By AI agents, Wed Nov 11 2026. No macro, syntax, notation, axiom, sorry.
-/
import Derived.Test.YbulkckqoDoorRows
import GoSem.ClaimSeven
namespace Go.Proofs.YbulkckqoDoor
namespace Rows

/-- THE TIED CARD OF 'supermajority.LawS4330AText'. -/
def lawS4330ATextCard : Claim7 := { stood := { row := lawS4330ATextRow, standIns := [], harness := (true, "b05656f589514479988be84e4c341e1cdc688e4b9b4a6e808769def3945b9aa2"), looks := false }, kinds := [], alts := [], laidByText := true, laidKinds := [.data, .data, .data], laidTests := true, laidLooks := .later }
def LawS4330ATextCardSaid : Prop := Claim7.holds Ybad.pinned (.plain (OpenSpec.ofChange lawS4330ATextSpec)) lawS4330ATextCard
end Rows
end Go.Proofs.YbulkckqoDoor

/-
  No cell of these rows narrows 'for every input' (looked for: loops, veiled, ifaces, maps, wideKeys, modest, calm, conditions, laid).
  DERIVED. THE GIVEN ROWS OF THIS SEAT. 1 by the template 'for every input the law returns true; each argument reads behind the call as it read before'; 0 by the template 'total and deterministic' (their statements: YbulkckhyTotals.lean).
  GIVEN WITH THE SEED: the statements are not yours to turn. If you find one false, say at which input.
  Laid BY PROGRAM, IN A SANDBOX (cutbox-rows.mjs): the forced cells as the released guide's own fill.sh prints them over the translation 5509d2dd2dd65b03… (all of the seat's roots in one cut). By AI agents, Wed Nov 11 2026. No macro, syntax, notation, axiom, sorry.
-/
import Derived.Test.YbulkckhyChecked
import GoSem.Claim
import GoSem.ClaimJoined
import GoSem.ClaimMapViews
import Derived.JoinedTies
import Derived.KernelRfl
namespace Go.Proofs.Ybulkckhy
/- THE CELL 'sum', in the pinned program and in every row, IS THE sha256 OF THE DUMP (.gsa) THAT YbulkckhyProg.lean LOADS. Nothing in Lean hashes anything: it is a label: what it is worth is what the hold of that sum in a sandbox is worth. -/
noncomputable def Yba.pinned : Pinned := { name := "ybulkckhy", sum := "5509d2dd2dd65b039db2be3fe7541197e9ae0d7c1f8410c06a253eadc50436a3", checked := Yba.checked }
namespace Rows
def none {H : Type} : Left H := { results := [], args := [] }

/-- 'book.LawS4314BFences': WHATEVER THE INPUT: true; the input reads as it did. -/
def lawS4314BFencesSpec : ChangeSpec := { name := "lawS4314BFences", fn := fun _ => fun
  | [d1, d2] => { results := [.lit (.bool true)], args := [d1, d2] }
  | _ => none }
def lawS4314BFencesRow : OpenClaim := { program := "ybulkckhy", sum := "5509d2dd2dd65b039db2be3fe7541197e9ae0d7c1f8410c06a253eadc50436a3", func := "example.com/zhaomu/zhaomu/pkg/book.LawS4314BFences", spec := "lawS4314BFences", apart := false }
def LawS4314BFencesSaid : Prop := lawS4314BFencesRow.holds Yba.pinned (OpenSpec.ofChange lawS4314BFencesSpec)

/-- ITS FALSE NEIGHBOUR: 'it returns false'. Refute it at one input. -/
def lawS4314BFencesWrong : ChangeSpec := { name := "lawS4314BFences", fn := fun _ => fun
  | [d1, d2] => { results := [.lit (.bool false)], args := [d1, d2] }
  | _ => none }
def LawS4314BFencesWrongFalsely : Prop := lawS4314BFencesRow.holds Yba.pinned (OpenSpec.ofChange lawS4314BFencesWrong)

end Rows
end Go.Proofs.Ybulkckhy

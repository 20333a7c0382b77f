/-
  No cell of these rows narrows 'for every input' (looked for: loops, veiled, ifaces, maps, wideKeys, modest, calm, conditions, laid).
  DERIVED. THE GIVEN ROWS OF THIS SEAT. 2 by the template 'for every input the law returns true; each argument reads behind the call as it read before'; 0 by the template 'total and deterministic' (their statements: YbulkckoyTotals.lean).
  GIVEN WITH THE SEED: the statements are not yours to turn. If you find one false, say at which input.
  Laid BY PROGRAM, IN A SANDBOX (cutbox-rows.mjs): the forced cells as the released guide's own fill.sh prints them over the translation 30b80bf2b75b67ed… (all of the seat's roots in one cut). By AI agents, Wed Nov 11 2026. No macro, syntax, notation, axiom, sorry.
-/
import Derived.Test.YbulkckoyChecked
import GoSem.Claim
import GoSem.ClaimJoined
import GoSem.ClaimMapViews
import Derived.JoinedTies
import Derived.KernelRfl
namespace Go.Proofs.Ybulkckoy
/- THE CELL 'sum', in the pinned program and in every row, IS THE sha256 OF THE DUMP (.gsa) THAT YbulkckoyProg.lean LOADS. Nothing in Lean hashes anything: it is a label: what it is worth is what the hold of that sum in a sandbox is worth. -/
noncomputable def Yba.pinned : Pinned := { name := "ybulkckoy", sum := "30b80bf2b75b67ed76109ba0bdaa3089007c99c0e2ac85ec7e872892a31979c8", checked := Yba.checked }
namespace Rows
def none {H : Type} : Left H := { results := [], args := [] }

/-- 'daemon.LawS4327BModel': WHATEVER THE INPUT: true; the input reads as it did. -/
def lawS4327BModelSpec : ChangeSpec := { name := "lawS4327BModel", fn := fun _ => fun
  | [d1, d2, d3, d4] => { results := [.lit (.bool true)], args := [d1, d2, d3, d4] }
  | _ => none }
def lawS4327BModelRow : OpenClaim := { program := "ybulkckoy", sum := "30b80bf2b75b67ed76109ba0bdaa3089007c99c0e2ac85ec7e872892a31979c8", func := "example.com/handover/handover/internal/daemon.LawS4327BModel", spec := "lawS4327BModel", apart := false }
def LawS4327BModelSaid : Prop := lawS4327BModelRow.holds Yba.pinned (OpenSpec.ofChange lawS4327BModelSpec)

/-- ITS FALSE NEIGHBOUR: 'it returns false'. Refute it at one input. -/
def lawS4327BModelWrong : ChangeSpec := { name := "lawS4327BModel", fn := fun _ => fun
  | [d1, d2, d3, d4] => { results := [.lit (.bool false)], args := [d1, d2, d3, d4] }
  | _ => none }
def LawS4327BModelWrongFalsely : Prop := lawS4327BModelRow.holds Yba.pinned (OpenSpec.ofChange lawS4327BModelWrong)

/-- 'daemon.LawS4327BPicked': WHATEVER THE INPUT: true; the input reads as it did. -/
def lawS4327BPickedSpec : ChangeSpec := { name := "lawS4327BPicked", fn := fun _ => fun
  | [d1, d2] => { results := [.lit (.bool true)], args := [d1, d2] }
  | _ => none }
def lawS4327BPickedRow : OpenClaim := { program := "ybulkckoy", sum := "30b80bf2b75b67ed76109ba0bdaa3089007c99c0e2ac85ec7e872892a31979c8", func := "example.com/handover/handover/internal/daemon.LawS4327BPicked", spec := "lawS4327BPicked", apart := false }
def LawS4327BPickedSaid : Prop := lawS4327BPickedRow.holds Yba.pinned (OpenSpec.ofChange lawS4327BPickedSpec)

/-- ITS FALSE NEIGHBOUR: 'it returns false'. Refute it at one input. -/
def lawS4327BPickedWrong : ChangeSpec := { name := "lawS4327BPicked", fn := fun _ => fun
  | [d1, d2] => { results := [.lit (.bool false)], args := [d1, d2] }
  | _ => none }
def LawS4327BPickedWrongFalsely : Prop := lawS4327BPickedRow.holds Yba.pinned (OpenSpec.ofChange lawS4327BPickedWrong)

end Rows
end Go.Proofs.Ybulkckoy

/-
  No cell of these rows narrows 'for every input' (looked for: loops, veiled, ifaces, maps, wideKeys, modest, calm, conditions, laid).
  DERIVED. THE GIVEN ROWS OF THIS SEAT. 2 by the template 'for every input the law returns true; each argument reads behind the call as it read before'; 0 by the template 'total and deterministic' (their statements: YbulkckimTotals.lean).
  GIVEN WITH THE SEED: the statements are not yours to turn. If you find one false, say at which input.
  Laid BY PROGRAM, IN A SANDBOX (cutbox-rows.mjs): the forced cells as the released guide's own fill.sh prints them over the translation 61747ba36ddbf122… (all of the seat's roots in one cut). By AI agents, Wed Nov 11 2026. No macro, syntax, notation, axiom, sorry.
-/
import Derived.Test.YbulkckimChecked
import GoSem.Claim
import GoSem.ClaimJoined
import GoSem.ClaimMapViews
import Derived.JoinedTies
import Derived.KernelRfl
namespace Go.Proofs.Ybulkckim
/- THE CELL 'sum', in the pinned program and in every row, IS THE sha256 OF THE DUMP (.gsa) THAT YbulkckimProg.lean LOADS. Nothing in Lean hashes anything: it is a label: what it is worth is what the hold of that sum in a sandbox is worth. -/
noncomputable def Yba.pinned : Pinned := { name := "ybulkckim", sum := "61747ba36ddbf122808092e4dbe19bf2a1d92607a9a9463555b40f05dd9e79e9", checked := Yba.checked }
namespace Rows
def none {H : Type} : Left H := { results := [], args := [] }

/-- 'sim.LawS4315AShare': WHATEVER THE INPUT: true; the input reads as it did. -/
def lawS4315AShareSpec : ChangeSpec := { name := "lawS4315AShare", fn := fun _ => fun
  | [d1, d2, d3, d4] => { results := [.lit (.bool true)], args := [d1, d2, d3, d4] }
  | _ => none }
def lawS4315AShareRow : OpenClaim := { program := "ybulkckim", sum := "61747ba36ddbf122808092e4dbe19bf2a1d92607a9a9463555b40f05dd9e79e9", func := "example.com/hyperweave/hyperweave/internal/sim.LawS4315AShare", spec := "lawS4315AShare", plainKeys := false, apart := false }
def LawS4315AShareSaid : Prop := lawS4315AShareRow.holds Yba.pinned (OpenSpec.ofChange lawS4315AShareSpec)

/-- ITS FALSE NEIGHBOUR: 'it returns false'. Refute it at one input. -/
def lawS4315AShareWrong : ChangeSpec := { name := "lawS4315AShare", fn := fun _ => fun
  | [d1, d2, d3, d4] => { results := [.lit (.bool false)], args := [d1, d2, d3, d4] }
  | _ => none }
def LawS4315AShareWrongFalsely : Prop := lawS4315AShareRow.holds Yba.pinned (OpenSpec.ofChange lawS4315AShareWrong)

/-- 'sim.LawS4315CCount': WHATEVER THE INPUT: true; the input reads as it did. -/
def lawS4315CCountSpec : ChangeSpec := { name := "lawS4315CCount", fn := fun _ => fun
  | [d] => { results := [.lit (.bool true)], args := [d] }
  | _ => none }
def lawS4315CCountRow : OpenClaim := { program := "ybulkckim", sum := "61747ba36ddbf122808092e4dbe19bf2a1d92607a9a9463555b40f05dd9e79e9", func := "example.com/hyperweave/hyperweave/internal/sim.LawS4315CCount", spec := "lawS4315CCount", unfollowed := true, recurses := true, plainKeys := false, apart := false }
def LawS4315CCountSaid : Prop := lawS4315CCountRow.holds Yba.pinned (OpenSpec.ofChange lawS4315CCountSpec)

/-- ITS FALSE NEIGHBOUR: 'it returns false'. Refute it at one input. -/
def lawS4315CCountWrong : ChangeSpec := { name := "lawS4315CCount", fn := fun _ => fun
  | [d] => { results := [.lit (.bool false)], args := [d] }
  | _ => none }
def LawS4315CCountWrongFalsely : Prop := lawS4315CCountRow.holds Yba.pinned (OpenSpec.ofChange lawS4315CCountWrong)

end Rows
end Go.Proofs.Ybulkckim

/-
  No cell of these rows narrows 'for every input' (looked for: loops, veiled, ifaces, maps, wideKeys, modest, calm, conditions, laid).
  DERIVED. THE GIVEN ROWS OF THIS SEAT. 2 by the template 'for every input the law returns true; each argument reads behind the call as it read before'; 0 by the template 'total and deterministic' (their statements: YbulkckhyFmtTotals.lean).
  GIVEN WITH THE SEED: the statements are not yours to turn. If you find one false, say at which input.
  Laid BY PROGRAM, IN A SANDBOX (cutbox-rows.mjs): the forced cells as the released guide's own fill.sh prints them over the translation 13d5846ca22979e7… (all of the seat's roots in one cut). By AI agents, Wed Nov 11 2026. No macro, syntax, notation, axiom, sorry.
-/
import Derived.Test.YbulkckhyFmtChecked
import GoSem.Claim
import GoSem.ClaimJoined
import GoSem.ClaimMapViews
import Derived.JoinedTies
import Derived.KernelRfl
namespace Go.Proofs.YbulkckhyFmt
/- THE CELL 'sum', in the pinned program and in every row, IS THE sha256 OF THE DUMP (.gsa) THAT YbulkckhyFmtProg.lean LOADS. Nothing in Lean hashes anything: it is a label: what it is worth is what the hold of that sum in a sandbox is worth. -/
noncomputable def Ybaf.pinned : Pinned := { name := "ybulkckhyfmt", sum := "13d5846ca22979e714009d4c8d83fdc459d24764f5e7a3f243409fc677406c14", checked := Ybaf.checked }
namespace Rows
def none {H : Type} : Left H := { results := [], args := [] }

/-- 'fund.LawS4314CResult': WHATEVER THE INPUT: true; the input reads as it did. -/
def lawS4314CResultSpec : ChangeSpec := { name := "lawS4314CResult", fn := fun _ => fun
  | [d1, d2, d3, d4, d5] => { results := [.lit (.bool true)], args := [d1, d2, d3, d4, d5] }
  | _ => none }
def lawS4314CResultRow : OpenClaim := { program := "ybulkckhyfmt", sum := "13d5846ca22979e714009d4c8d83fdc459d24764f5e7a3f243409fc677406c14", func := "example.com/zhaomu/zhaomu/pkg/fund.LawS4314CResult", spec := "lawS4314CResult", stops := ["fmt.Sprintf, its operands' methods called"], inPlace := ["fmt.Sprintf"], unfollowed := true, recurses := true, apart := false }
/-- NO THEOREM (fmt's text is open here; it may be false): for the released tool's asking of the row's closed facts alone. THE STATEMENT IS 'LawS4314CResultToldSaid' (YbulkckhyFmtCards.lean). -/
def LawS4314CResultFormAsk : Prop := lawS4314CResultRow.holds Ybaf.pinned (OpenSpec.ofChange lawS4314CResultSpec)

/-- ITS FALSE NEIGHBOUR: 'it returns false'. Refute it at one input. -/
def lawS4314CResultWrong : ChangeSpec := { name := "lawS4314CResult", fn := fun _ => fun
  | [d1, d2, d3, d4, d5] => { results := [.lit (.bool false)], args := [d1, d2, d3, d4, d5] }
  | _ => none }
def LawS4314CResultWrongFormAsk : Prop := lawS4314CResultRow.holds Ybaf.pinned (OpenSpec.ofChange lawS4314CResultWrong)

/-- 'fund.LawS4314CStuck': WHATEVER THE INPUT: true; the input reads as it did. -/
def lawS4314CStuckSpec : ChangeSpec := { name := "lawS4314CStuck", fn := fun _ => fun
  | [d1, d2, d3, d4, d5, d6, d7] => { results := [.lit (.bool true)], args := [d1, d2, d3, d4, d5, d6, d7] }
  | _ => none }
def lawS4314CStuckRow : OpenClaim := { program := "ybulkckhyfmt", sum := "13d5846ca22979e714009d4c8d83fdc459d24764f5e7a3f243409fc677406c14", func := "example.com/zhaomu/zhaomu/pkg/fund.LawS4314CStuck", spec := "lawS4314CStuck", stops := ["fmt.Sprintf, its operands' methods called"], inPlace := ["fmt.Sprintf"], unfollowed := true, recurses := true, apart := false }
/-- NO THEOREM (fmt's text is open here; it may be false): for the released tool's asking of the row's closed facts alone. THE STATEMENT IS 'LawS4314CStuckToldSaid' (YbulkckhyFmtCards.lean). -/
def LawS4314CStuckFormAsk : Prop := lawS4314CStuckRow.holds Ybaf.pinned (OpenSpec.ofChange lawS4314CStuckSpec)

/-- ITS FALSE NEIGHBOUR: 'it returns false'. Refute it at one input. -/
def lawS4314CStuckWrong : ChangeSpec := { name := "lawS4314CStuck", fn := fun _ => fun
  | [d1, d2, d3, d4, d5, d6, d7] => { results := [.lit (.bool false)], args := [d1, d2, d3, d4, d5, d6, d7] }
  | _ => none }
def LawS4314CStuckWrongFormAsk : Prop := lawS4314CStuckRow.holds Ybaf.pinned (OpenSpec.ofChange lawS4314CStuckWrong)

end Rows
end Go.Proofs.YbulkckhyFmt

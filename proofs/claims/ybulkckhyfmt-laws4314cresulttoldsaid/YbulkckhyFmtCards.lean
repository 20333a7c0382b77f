/-
  DERIVED. GIVEN WITH THE SEED: THE CARDS: each row of YbulkckhyFmtRows.lean that lists a variable, with what it lists TIED to the program's text (the seventh form; the later family's looks); each row that meets fmt, with fmt's text TOLD by the authors' own Lean function (tested against real Go, not proved from fmt's source: count such statements apart). THE CARD IS WHAT COUNTS. Prove the row's statement (the work); the ties are given (YbulkckhyFmtTie.lean); close each card by the builder's one call (the guide's Derived/Test/ToyasCard.lean, 'card_holds'). Laid BY PROGRAM, IN A SANDBOX (cutbox-door.mjs). By AI agents, Wed Nov 11 2026. No macro, syntax, notation, axiom, sorry.
-/
import Derived.Test.YbulkckhyFmtRows
import GoSem.ClaimSeven
namespace Go.Proofs.YbulkckhyFmt
namespace Rows

/-- THE TOLD CARD OF 'fund.LawS4314CResult'. -/
def lawS4314CResultCard : Claim7 := { stood := { row := lawS4314CResultRow, standIns := [], harness := (true, "a9a55750dc2c461922829e89102ff350225bf24a4bf245841a6c9824fac3784e"), looks := true }, told := true, goes := false }
def LawS4314CResultToldSaid : Prop := Claim7.holds Ybaf.pinned (.plain (OpenSpec.ofChange lawS4314CResultSpec)) lawS4314CResultCard
/-- ITS FALSE NEIGHBOUR. Refute it at one input. -/
def LawS4314CResultToldWrongFalsely : Prop := Claim7.holds Ybaf.pinned (.plain (OpenSpec.ofChange lawS4314CResultWrong)) lawS4314CResultCard

/-- THE TOLD CARD OF 'fund.LawS4314CStuck'. -/
def lawS4314CStuckCard : Claim7 := { stood := { row := lawS4314CStuckRow, standIns := [], harness := (true, "a9a55750dc2c461922829e89102ff350225bf24a4bf245841a6c9824fac3784e"), looks := true }, told := true, goes := false }
def LawS4314CStuckToldSaid : Prop := Claim7.holds Ybaf.pinned (.plain (OpenSpec.ofChange lawS4314CStuckSpec)) lawS4314CStuckCard
/-- ITS FALSE NEIGHBOUR. Refute it at one input. -/
def LawS4314CStuckToldWrongFalsely : Prop := Claim7.holds Ybaf.pinned (.plain (OpenSpec.ofChange lawS4314CStuckWrong)) lawS4314CStuckCard
end Rows
end Go.Proofs.YbulkckhyFmt

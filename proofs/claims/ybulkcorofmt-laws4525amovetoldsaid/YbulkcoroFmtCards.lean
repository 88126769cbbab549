/-
  DERIVED. GIVEN WITH THE SEED: THE CARDS: each row of YbulkcoroFmtRows.lean that lists a variable, with what it lists TIED to the program's text (the seventh form; the later family's looks); each row that meets fmt, with fmt's text TOLD by the authors' own Lean function (tested against real Go, not proved from fmt's source: count such statements apart). THE CARD IS WHAT COUNTS. Prove the row's statement (the work); the ties are given (YbulkcoroFmtTie.lean); close each card by the builder's one call (the guide's Derived/Test/ToyasCard.lean, 'card_holds'). Laid BY PROGRAM, IN A SANDBOX (cutbox-door.mjs). By AI agents, Wed Nov 11 2026. No macro, syntax, notation, axiom, sorry.
-/
import Derived.Test.YbulkcoroFmtRows
import GoSem.ClaimSeven
namespace Go.Proofs.YbulkcoroFmt
namespace Rows

/-- THE TOLD CARD OF 'shard-balancer.LawS4525AMove'. -/
def lawS4525AMoveCard : Claim7 := { stood := { row := lawS4525AMoveRow, standIns := [], harness := (true, "0517218078f85a406efac5a38959770f255cd07c98b335a600786cf429b11d28"), looks := true }, told := true, goes := false }
def LawS4525AMoveToldSaid : Prop := Claim7.holds Ybaf.pinned (.plain (OpenSpec.ofChange lawS4525AMoveSpec)) lawS4525AMoveCard
/-- ITS FALSE NEIGHBOUR. Refute it at one input. -/
def LawS4525AMoveToldWrongFalsely : Prop := Claim7.holds Ybaf.pinned (.plain (OpenSpec.ofChange lawS4525AMoveWrong)) lawS4525AMoveCard
end Rows
end Go.Proofs.YbulkcoroFmt

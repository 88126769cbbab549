/-
  No cell of these rows narrows 'for every input' (looked for: loops, veiled, ifaces, maps, wideKeys, modest, calm, conditions, laid).
  DERIVED. THE GIVEN ROWS OF THIS SEAT. 1 by the template 'for every input the law returns true; each argument reads behind the call as it read before'; 0 by the template 'total and deterministic' (their statements: YbulkcoroFmtTotals.lean).
  GIVEN WITH THE SEED: the statements are not yours to turn. If you find one false, say at which input.
  Laid BY PROGRAM, IN A SANDBOX (cutbox-rows.mjs): the forced cells as the released guide's own fill.sh prints them over the translation 18ae2fce4fbad5e7… (all of the seat's roots in one cut). By AI agents, Wed Nov 11 2026. No macro, syntax, notation, axiom, sorry.
-/
import Derived.Test.YbulkcoroFmtChecked
import GoSem.Claim
import GoSem.ClaimJoined
import GoSem.ClaimMapViews
import Derived.JoinedTies
import Derived.KernelRfl
namespace Go.Proofs.YbulkcoroFmt
/- THE CELL 'sum', in the pinned program and in every row, IS THE sha256 OF THE DUMP (.gsa) THAT YbulkcoroFmtProg.lean LOADS. Nothing in Lean hashes anything: it is a label: what it is worth is what the hold of that sum in a sandbox is worth. -/
noncomputable def Ybaf.pinned : Pinned := { name := "ybulkcorofmt", sum := "18ae2fce4fbad5e76bd798fd64b624b6112d90688d1f66a83bcd50b67fd35994", checked := Ybaf.checked }
namespace Rows
def none {H : Type} : Left H := { results := [], args := [] }

/-- 'shard-balancer.LawS4525AMove': WHATEVER THE INPUT: true; the input reads as it did. -/
def lawS4525AMoveSpec : ChangeSpec := { name := "lawS4525AMove", fn := fun _ => fun
  | [d1, d2, d3, d4, d5, d6] => { results := [.lit (.bool true)], args := [d1, d2, d3, d4, d5, d6] }
  | _ => none }
def lawS4525AMoveRow : OpenClaim := { program := "ybulkcorofmt", sum := "18ae2fce4fbad5e76bd798fd64b624b6112d90688d1f66a83bcd50b67fd35994", func := "example.com/shard-balancer/shard-balancer.LawS4525AMove", spec := "lawS4525AMove", stops := ["fmt.Sprintf"], inPlace := ["fmt.Sprintf", "maps.clone"], apart := false }
/-- NO THEOREM (fmt's text is open here; it may be false): for the released tool's asking of the row's closed facts alone. THE STATEMENT IS 'LawS4525AMoveToldSaid' (YbulkcoroFmtCards.lean). -/
def LawS4525AMoveFormAsk : Prop := lawS4525AMoveRow.holds Ybaf.pinned (OpenSpec.ofChange lawS4525AMoveSpec)

/-- ITS FALSE NEIGHBOUR: 'it returns false'. Refute it at one input. -/
def lawS4525AMoveWrong : ChangeSpec := { name := "lawS4525AMove", fn := fun _ => fun
  | [d1, d2, d3, d4, d5, d6] => { results := [.lit (.bool false)], args := [d1, d2, d3, d4, d5, d6] }
  | _ => none }
def LawS4525AMoveWrongFormAsk : Prop := lawS4525AMoveRow.holds Ybaf.pinned (OpenSpec.ofChange lawS4525AMoveWrong)

end Rows
end Go.Proofs.YbulkcoroFmt

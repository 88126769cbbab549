/-
  No cell of these rows narrows 'for every input' (looked for: loops, veiled, ifaces, maps, wideKeys, modest, calm, conditions, laid).
  DERIVED. THE GIVEN ROWS OF THIS SEAT. 2 by the template 'for every input the law returns true; each argument reads behind the call as it read before'; 0 by the template 'total and deterministic' (their statements: YbulkcoroTotals.lean).
  GIVEN WITH THE SEED: the statements are not yours to turn. If you find one false, say at which input.
  Laid BY PROGRAM, IN A SANDBOX (cutbox-rows.mjs): the forced cells as the released guide's own fill.sh prints them over the translation c950d910d9579784… (all of the seat's roots in one cut). By AI agents, Wed Nov 11 2026. No macro, syntax, notation, axiom, sorry.
-/
import Derived.Test.YbulkcoroChecked
import GoSem.Claim
import GoSem.ClaimJoined
import GoSem.ClaimMapViews
import Derived.JoinedTies
import Derived.KernelRfl
namespace Go.Proofs.Ybulkcoro
/- THE CELL 'sum', in the pinned program and in every row, IS THE sha256 OF THE DUMP (.gsa) THAT YbulkcoroProg.lean LOADS. Nothing in Lean hashes anything: it is a label: what it is worth is what the hold of that sum in a sandbox is worth. -/
noncomputable def Yba.pinned : Pinned := { name := "ybulkcoro", sum := "c950d910d9579784bcef908ea25d99e8e03d6385ed445b9e4e4839fbd24ba9b8", checked := Yba.checked }
namespace Rows
def none {H : Type} : Left H := { results := [], args := [] }

/-- 'shard-balancer.LawS4525CKind': WHATEVER THE INPUT: true; the input reads as it did. -/
def lawS4525CKindSpec : ChangeSpec := { name := "lawS4525CKind", fn := fun _ => fun
  | [d1, d2, d3, d4, d5, d6] => { results := [.lit (.bool true)], args := [d1, d2, d3, d4, d5, d6] }
  | _ => none }
def lawS4525CKindRow : OpenClaim := { program := "ybulkcoro", sum := "c950d910d9579784bcef908ea25d99e8e03d6385ed445b9e4e4839fbd24ba9b8", func := "example.com/shard-balancer/shard-balancer.LawS4525CKind", spec := "lawS4525CKind", apart := false }
def LawS4525CKindSaid : Prop := lawS4525CKindRow.holds Yba.pinned (OpenSpec.ofChange lawS4525CKindSpec)

/-- ITS FALSE NEIGHBOUR: 'it returns false'. Refute it at one input. -/
def lawS4525CKindWrong : ChangeSpec := { name := "lawS4525CKind", fn := fun _ => fun
  | [d1, d2, d3, d4, d5, d6] => { results := [.lit (.bool false)], args := [d1, d2, d3, d4, d5, d6] }
  | _ => none }
def LawS4525CKindWrongFalsely : Prop := lawS4525CKindRow.holds Yba.pinned (OpenSpec.ofChange lawS4525CKindWrong)

/-- 'shard-balancer.LawS4525CDelims': WHATEVER THE INPUT: true; the input reads as it did. -/
def lawS4525CDelimsSpec : ChangeSpec := { name := "lawS4525CDelims", fn := fun _ => fun
  | [d1, d2] => { results := [.lit (.bool true)], args := [d1, d2] }
  | _ => none }
def lawS4525CDelimsRow : OpenClaim := { program := "ybulkcoro", sum := "c950d910d9579784bcef908ea25d99e8e03d6385ed445b9e4e4839fbd24ba9b8", func := "example.com/shard-balancer/shard-balancer.LawS4525CDelims", spec := "lawS4525CDelims", apart := false }
def LawS4525CDelimsSaid : Prop := lawS4525CDelimsRow.holds Yba.pinned (OpenSpec.ofChange lawS4525CDelimsSpec)

/-- ITS FALSE NEIGHBOUR: 'it returns false'. Refute it at one input. -/
def lawS4525CDelimsWrong : ChangeSpec := { name := "lawS4525CDelims", fn := fun _ => fun
  | [d1, d2] => { results := [.lit (.bool false)], args := [d1, d2] }
  | _ => none }
def LawS4525CDelimsWrongFalsely : Prop := lawS4525CDelimsRow.holds Yba.pinned (OpenSpec.ofChange lawS4525CDelimsWrong)

end Rows
end Go.Proofs.Ybulkcoro

/-
  No cell of these rows narrows 'for every input' (looked for: loops, veiled, ifaces, maps, wideKeys, modest, calm, conditions, laid).
  DERIVED. THE GIVEN ROWS OF THIS SEAT. 1 by the template 'for every input the law returns true; each argument reads behind the call as it read before'; 0 by the template 'total and deterministic' (their statements: YbulkcoyaTotals.lean).
  GIVEN WITH THE SEED: the statements are not yours to turn. If you find one false, say at which input.
  Laid BY PROGRAM, IN A SANDBOX (cutbox-rows.mjs): the forced cells as the released guide's own fill.sh prints them over the translation 49be96576751e09e… (all of the seat's roots in one cut). By AI agents, Wed Nov 11 2026. No macro, syntax, notation, axiom, sorry.
-/
import Derived.Test.YbulkcoyaChecked
import GoSem.Claim
import GoSem.ClaimJoined
import GoSem.ClaimMapViews
import Derived.JoinedTies
import Derived.KernelRfl
namespace Go.Proofs.Ybulkcoya
/- THE CELL 'sum', in the pinned program and in every row, IS THE sha256 OF THE DUMP (.gsa) THAT YbulkcoyaProg.lean LOADS. Nothing in Lean hashes anything: it is a label: what it is worth is what the hold of that sum in a sandbox is worth. -/
noncomputable def Yba.pinned : Pinned := { name := "ybulkcoya", sum := "49be96576751e09e0ebe4bf57f1439a129be4a876a4156bb1ad324053c7288ed", checked := Yba.checked }
namespace Rows
def none {H : Type} : Left H := { results := [], args := [] }

/-- 'sip.LawS4537BDue': WHATEVER THE INPUT: true; the input reads as it did. -/
def lawS4537BDueSpec : ChangeSpec := { name := "lawS4537BDue", fn := fun _ => fun
  | [d] => { results := [.lit (.bool true)], args := [d] }
  | _ => none }
def lawS4537BDueRow : OpenClaim := { program := "ybulkcoya", sum := "49be96576751e09e0ebe4bf57f1439a129be4a876a4156bb1ad324053c7288ed", func := "example.com/tollpath/tollpath/internal/sip.LawS4537BDue", spec := "lawS4537BDue", plainKeys := false, apart := false }
def LawS4537BDueSaid : Prop := lawS4537BDueRow.holds Yba.pinned (OpenSpec.ofChange lawS4537BDueSpec)

/-- ITS FALSE NEIGHBOUR: 'it returns false'. Refute it at one input. -/
def lawS4537BDueWrong : ChangeSpec := { name := "lawS4537BDue", fn := fun _ => fun
  | [d] => { results := [.lit (.bool false)], args := [d] }
  | _ => none }
def LawS4537BDueWrongFalsely : Prop := lawS4537BDueRow.holds Yba.pinned (OpenSpec.ofChange lawS4537BDueWrong)

end Rows
end Go.Proofs.Ybulkcoya

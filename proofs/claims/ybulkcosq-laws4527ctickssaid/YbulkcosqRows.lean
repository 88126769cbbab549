/-
  No cell of these rows narrows 'for every input' (looked for: loops, veiled, ifaces, maps, wideKeys, modest, calm, conditions, laid).
  DERIVED. THE GIVEN ROWS OF THIS SEAT. 4 by the template 'for every input the law returns true; each argument reads behind the call as it read before'; 0 by the template 'total and deterministic' (their statements: YbulkcosqTotals.lean).
  GIVEN WITH THE SEED: the statements are not yours to turn. If you find one false, say at which input.
  Laid BY PROGRAM, IN A SANDBOX (cutbox-rows.mjs): the forced cells as the released guide's own fill.sh prints them over the translation 6954f06cd4357f26… (all of the seat's roots in one cut). By AI agents, Wed Nov 11 2026. No macro, syntax, notation, axiom, sorry.
-/
import Derived.Test.YbulkcosqChecked
import GoSem.Claim
import GoSem.ClaimJoined
import GoSem.ClaimMapViews
import Derived.JoinedTies
import Derived.KernelRfl
namespace Go.Proofs.Ybulkcosq
/- THE CELL 'sum', in the pinned program and in every row, IS THE sha256 OF THE DUMP (.gsa) THAT YbulkcosqProg.lean LOADS. Nothing in Lean hashes anything: it is a label: what it is worth is what the hold of that sum in a sandbox is worth. -/
noncomputable def Yba.pinned : Pinned := { name := "ybulkcosq", sum := "6954f06cd4357f2605c8d532b3ed6aaa70b8fef196307e55fb77126809dfca55", checked := Yba.checked }
namespace Rows
def none {H : Type} : Left H := { results := [], args := [] }

/-- 'vclog.LawS4527BSlice': WHATEVER THE INPUT: true; the input reads as it did. -/
def lawS4527BSliceSpec : ChangeSpec := { name := "lawS4527BSlice", fn := fun _ => fun
  | [d1, d2, d3] => { results := [.lit (.bool true)], args := [d1, d2, d3] }
  | _ => none }
def lawS4527BSliceRow : OpenClaim := { program := "ybulkcosq", sum := "6954f06cd4357f2605c8d532b3ed6aaa70b8fef196307e55fb77126809dfca55", func := "example.com/beforehand/beforehand/internal/vclog.LawS4527BSlice", spec := "lawS4527BSlice", apart := false }
def LawS4527BSliceSaid : Prop := lawS4527BSliceRow.holds Yba.pinned (OpenSpec.ofChange lawS4527BSliceSpec)

/-- ITS FALSE NEIGHBOUR: 'it returns false'. Refute it at one input. -/
def lawS4527BSliceWrong : ChangeSpec := { name := "lawS4527BSlice", fn := fun _ => fun
  | [d1, d2, d3] => { results := [.lit (.bool false)], args := [d1, d2, d3] }
  | _ => none }
def LawS4527BSliceWrongFalsely : Prop := lawS4527BSliceRow.holds Yba.pinned (OpenSpec.ofChange lawS4527BSliceWrong)

/-- 'beforehand.LawS4527CExact': WHATEVER THE INPUT: true; the input reads as it did. -/
def lawS4527CExactSpec : ChangeSpec := { name := "lawS4527CExact", fn := fun _ => fun
  | [d1, d2] => { results := [.lit (.bool true)], args := [d1, d2] }
  | _ => none }
def lawS4527CExactRow : OpenClaim := { program := "ybulkcosq", sum := "6954f06cd4357f2605c8d532b3ed6aaa70b8fef196307e55fb77126809dfca55", func := "example.com/beforehand/beforehand.LawS4527CExact", spec := "lawS4527CExact", unfollowed := true, recurses := true, apart := false }
def LawS4527CExactSaid : Prop := lawS4527CExactRow.holds Yba.pinned (OpenSpec.ofChange lawS4527CExactSpec)

/-- ITS FALSE NEIGHBOUR: 'it returns false'. Refute it at one input. -/
def lawS4527CExactWrong : ChangeSpec := { name := "lawS4527CExact", fn := fun _ => fun
  | [d1, d2] => { results := [.lit (.bool false)], args := [d1, d2] }
  | _ => none }
def LawS4527CExactWrongFalsely : Prop := lawS4527CExactRow.holds Yba.pinned (OpenSpec.ofChange lawS4527CExactWrong)

/-- 'beforehand.LawS4527CStop': WHATEVER THE INPUT: true; the input reads as it did. -/
def lawS4527CStopSpec : ChangeSpec := { name := "lawS4527CStop", fn := fun _ => fun
  | [d1, d2, d3] => { results := [.lit (.bool true)], args := [d1, d2, d3] }
  | _ => none }
def lawS4527CStopRow : OpenClaim := { program := "ybulkcosq", sum := "6954f06cd4357f2605c8d532b3ed6aaa70b8fef196307e55fb77126809dfca55", func := "example.com/beforehand/beforehand.LawS4527CStop", spec := "lawS4527CStop", unfollowed := true, recurses := true, apart := false }
def LawS4527CStopSaid : Prop := lawS4527CStopRow.holds Yba.pinned (OpenSpec.ofChange lawS4527CStopSpec)

/-- ITS FALSE NEIGHBOUR: 'it returns false'. Refute it at one input. -/
def lawS4527CStopWrong : ChangeSpec := { name := "lawS4527CStop", fn := fun _ => fun
  | [d1, d2, d3] => { results := [.lit (.bool false)], args := [d1, d2, d3] }
  | _ => none }
def LawS4527CStopWrongFalsely : Prop := lawS4527CStopRow.holds Yba.pinned (OpenSpec.ofChange lawS4527CStopWrong)

/-- 'beforehand.LawS4527CTicks': WHATEVER THE INPUT: true; the input reads as it did. -/
def lawS4527CTicksSpec : ChangeSpec := { name := "lawS4527CTicks", fn := fun _ => fun
  | [d] => { results := [.lit (.bool true)], args := [d] }
  | _ => none }
def lawS4527CTicksRow : OpenClaim := { program := "ybulkcosq", sum := "6954f06cd4357f2605c8d532b3ed6aaa70b8fef196307e55fb77126809dfca55", func := "example.com/beforehand/beforehand.LawS4527CTicks", spec := "lawS4527CTicks", inPlace := ["internal/bytealg.abigen_runtime_cmpstring", "slices.overlaps[example.com/beforehand/beforehand.vectorEntry]"], unfollowed := true, recurses := true, apart := false }
def LawS4527CTicksSaid : Prop := lawS4527CTicksRow.holds Yba.pinned (OpenSpec.ofChange lawS4527CTicksSpec)

/-- ITS FALSE NEIGHBOUR: 'it returns false'. Refute it at one input. -/
def lawS4527CTicksWrong : ChangeSpec := { name := "lawS4527CTicks", fn := fun _ => fun
  | [d] => { results := [.lit (.bool false)], args := [d] }
  | _ => none }
def LawS4527CTicksWrongFalsely : Prop := lawS4527CTicksRow.holds Yba.pinned (OpenSpec.ofChange lawS4527CTicksWrong)

end Rows
end Go.Proofs.Ybulkcosq

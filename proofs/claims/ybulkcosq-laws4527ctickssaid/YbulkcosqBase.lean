/- OUR OWN TEXT. What the four laws of this seat share: slices at whatever address, small facts on worlds. -/
import Derived.Test.YbulkcosqRows
import Derived.WalkKit
import Derived.WalkSpells
import Derived.WalkLawsBesides
import Derived.Deep.QuietTactic
import Derived.BigQuiet
import Derived.Deep.OwnRows
import Derived.Deep.AppendLies
namespace Go.Proofs.Ybulkcosq.Own
open Go.RowKit

/-- WHERE THE i-th CELL OF A SLICE LIES (of a nil slice: nowhere that is asked for). -/
def cellOf (a : Option Addr) (i : Nat) : Addr := (a.getD ⟨0, 0, none⟩).add i

theorem add_add (a : Addr) (i j : Nat) : (a.add i).add j = a.add (i + j) := by
  unfold Addr.add
  by_cases hi : i = 0 <;> by_cases hj : j = 0 <;> simp [hi, hj, Nat.add_assoc]

theorem cellOf_add (a : Option Addr) (i j : Nat) : (cellOf a i).add j = cellOf a (i + j) := add_add _ _ _

/-- 'xs[i]' within the bounds, the slice's address whatever. -/
theorem run_index_in {P : Program} {t e : TypeId} {a : Option Addr} {len cap i s : Nat} {k : IntKind} (h : P.underlying t = some (.slice e)) (hs : ∀ w, (sizeOf e).run P w = .ok s w) (ha : a.isSome = true) (hi : i < len) (w : World) :
    (Instr.indexAt t (.slice a len cap) (.int k i)).run P w = .ok (.pointer (some (cellOf a (i * s)))) w := by
  obtain ⟨x, rfl⟩ := Option.isSome_iff_exists.1 ha
  simp [Instr.indexAt, run_underlying h, asIntOf, hs, cellOf, hi]

theorem lt_of_cell {w : World} {a : Addr} {v : Value} (h : w.cell? a = some v) : a.block < w.heap.size := by
  unfold World.cell? at h
  cases hb : w.heap[a.block]? with
  | none => rw [hb] at h; cases h
  | some o => exact (Array.getElem?_eq_some_iff.1 hb).1

theorem belowN {B : Nat} {w w' : World} (h : Below B w w') {q : Nat} : Below B w (w'.drewN q) := ⟨h.os, h.tape, h.output, h.size, h.block⟩

theorem bcell {W w1 : World} (hb : Below W.heap.size W w1) : (∀ b o, b < W.heap.size → w1.cell? ⟨b, o, none⟩ = W.cell? ⟨b, o, none⟩) ∧ (∀ b o, b < W.heap.size → w1.frozen? ⟨b, o, none⟩ = W.frozen? ⟨b, o, none⟩) :=
  ⟨fun b o h => hb.cell (p := ⟨b, o, none⟩) h, fun b o h => hb.frozen (p := ⟨b, o, none⟩) h⟩

theorem cell_of_alloc (w : World) (o : Obj) : (w.alloc o).heap[w.heap.size]? = some o := (MapKept.heap_alloc w o).1

end Go.Proofs.Ybulkcosq.Own

/- OUR OWN TEXT. The plain side of LawS4525AMove: how many different keys there are; how a slice of uint64 that came in is read. -/
import Derived.Test.YbulkcoroFmtRows
import Derived.WalkKit
import Derived.WalkSpells
import Derived.Deep.QuietTactic
import Derived.BigQuiet
namespace Go.Proofs.YbulkcoroFmt.Move
open Go.RowKit

/-- How many different numbers stand among the first k of zs. -/
def dcTo (zs : List Int) : Nat → Nat
  | 0 => 0
  | k + 1 => dcTo zs k + if zs.getD k 0 ∈ zs.take k then 0 else 1

theorem dcTo_le (zs : List Int) (k : Nat) : dcTo zs k ≤ k := by
  induction k with
  | zero => simp [dcTo]
  | succ k ih => simp only [dcTo]; split <;> omega

theorem take_snoc (zs : List Int) (k : Nat) (h : k < zs.length) : zs.take (k + 1) = zs.take k ++ [zs.getD k 0] := by
  rw [List.take_succ_eq_append_getElem h]; simp [List.getD, h]

/-- WHERE THE i-th CELL OF A SLICE LIES (of a nil slice: nowhere that is asked for). -/
def cellOf (a : Option Addr) (i : Nat) : Addr := (a.getD ⟨0, 0, none⟩).add i

theorem cellOf_some (b o : Nat) (i : Nat) : cellOf (some ⟨b, o, none⟩) i = ⟨b, o + i, none⟩ := by
  unfold cellOf Addr.add
  simp only [Option.getD_some]
  split
  · rename_i h; subst h; rfl
  · rfl

/-- 'xs[i]' within the bounds, the slice's address whatever. -/
theorem run_index_in {P : Program} {t e : TypeId} {a : Option Addr} {len cap i : Nat} {k : IntKind} (h : P.underlying t = some (.slice e)) (hs : ∀ w, (sizeOf e).run P w = .ok 1 w) (ha : a.isSome = true) (hi : i < len) (w : World) :
    (Instr.indexAt t (.slice a len cap) (.int k i)).run P w = .ok (.pointer (some (cellOf a i))) w := by
  obtain ⟨x, rfl⟩ := Option.isSome_iff_exists.1 ha
  simp [Instr.indexAt, run_underlying h, asIntOf, hs, cellOf, hi]

/-- A SLICE OF uint64 THAT CAME IN: its first 'len' numbers are zs's. -/
structure InRow (w : World) (a : Option Addr) (len : Nat) (zs : List Int) : Prop where
  size : len ≤ zs.length
  addr : 0 < len → a.isSome = true
  cell : ∀ i, i < len → w.cell? (cellOf a i) = some (.int .u64 (zs.getD i 0))

theorem size23 (w : World) : (sizeOf 23).run Ybaf.prog w = .ok 1 w := by kernel_rfl
theorem size25 (w : World) : (sizeOf 25).run Ybaf.prog w = .ok 1 w := by kernel_rfl

theorem InRow.idx {w : World} {a : Option Addr} {len : Nat} {zs : List Int} (h : InRow w a len zs) (cap i : Nat) (hi : i < len) (w' : World) :
    (Instr.indexAt 22 (.slice a len cap) (.int .i64 i)).run Ybaf.prog w' = .ok (.pointer (some (cellOf a i))) w' :=
  run_index_in Ybaf.underlying22 size23 (h.addr (by omega)) hi w'

theorem InRow.same {w w' : World} {a : Option Addr} {len : Nat} {zs : List Int} (h : InRow w a len zs) (hc : ∀ i, i < len → w'.cell? (cellOf a i) = w.cell? (cellOf a i)) : InRow w' a len zs :=
  ⟨h.size, h.addr, fun i hi => (hc i hi).trans (h.cell i hi)⟩

theorem InRow.drewN {w : World} {a : Option Addr} {len : Nat} {zs : List Int} (h : InRow w a len zs) (q : Nat) : InRow (w.drewN q) a len zs := h.same fun i _ => by simp

end Go.Proofs.YbulkcoroFmt.Move

/- OUR OWN TEXT. The maps keyed by netip.AddrPort: the keys of this road differ in the port alone. What a store of a new key comes to. -/
import Derived.Test.YbulkcoyaTime
import Derived.Maps.RangeRun
namespace Go.Proofs.Ybulkcoya.Due
open Go.RowKit
def kcs (i : Int) : Array Value := #[.int .u64 0, .int .u64 0, .pointer none, .int .u16 i]
def kv (i : Int) : Value := .agg (kcs i)
theorem part48 (i : Int) (w : World) : (part 48 (kcs i) 0).run Yba.prog w = .ok (.agg #[.int .u64 0, .int .u64 0, .pointer none]) w := by kernel_rfl
theorem part49 (i : Int) (w : World) : (part 49 (kcs i) 3).run Yba.prog w = .ok (.int .u16 i) w := by kernel_rfl
theorem eq48 (w : World) : (Op.equalIn 9999 48 (.agg #[.int .u64 0, .int .u64 0, .pointer none]) (.agg #[.int .u64 0, .int .u64 0, .pointer none])).run Yba.prog w = .ok true w := by kernel_rfl
theorem eq49 (i j : Int) (w : World) : (Op.equalIn 9999 49 (.int .u16 i) (.int .u16 j)).run Yba.prog w = .ok (i == j) w := by kernel_rfl
theorem eq51 (i j : Int) (h : i ≠ j) (w : World) : (Op.equal 51 (kv i) (kv j)).run Yba.prog w = .ok false w := by
  have hb : (i == j) = false := by simp [h]
  show (Op.equalIn (9999 + 1) 51 (.agg (kcs i)) (.agg (kcs j))).run Yba.prog w = _
  have hp : Sem.run Yba.prog (Sem.program Sem.pure) w = .ok Yba.prog w := rfl
  rw [Op.equalIn]
  simp [run_underlying Yba.underlying51, part48, part49, eq48, eq49, hb, program, Sem.run_bind, Result.andThen, hp]
theorem check51 (i : Int) (w : World) : (Instr.checkKey false 10000 51 (kv i)).run Yba.prog w = .ok () w := by kernel_rfl
theorem asking (k : Int) (w : World) : ∀ (es : List MapEntry) (i : Nat), (∀ x ∈ es, ∃ j, x.key = kv j ∧ k ≠ j) → (Instr.findAsking 51 (kv k) es i).run Yba.prog w = .ok none w
  | [], _, _ => rfl
  | e :: es, i, h => by
    obtain ⟨j, hj, hne⟩ := h e (by simp)
    have ih := asking k w es (i + 1) (fun x hx => h x (by simp [hx]))
    unfold Instr.findAsking
    rw [hj]
    simp [Sem.run_bind, eq51 k j hne w, Result.andThen, ih]
theorem finds (k : Int) (w : World) (es : List MapEntry) (h : ∀ x ∈ es, ∃ j, x.key = kv j ∧ k ≠ j) : (Instr.findKey 51 (kv k) es).run Yba.prog w = .ok none w := by
  cases es with
  | nil => simp [Instr.findKey, run_underlying Yba.underlying51, Instr.findNow, Result.andThen]
  | cons e es =>
    obtain ⟨j, hj, hne⟩ := h e (by simp)
    have hn : ∀ d, Yba.prog.underlying 51 = some d → Instr.findNow d (kv k) (e :: es) 0 = none := by
      intro d hd
      rw [Yba.underlying51] at hd
      cases hd
      simp [Instr.findNow, Instr.sameNow]
    have ha := asking k w (e :: es) 0 h
    simp [Instr.findKey, run_underlying Yba.underlying51, hn _ Yba.underlying51, ha, Sem.run_bind, Result.andThen]

open Go.ChangeMaps (setBlock)
/-- 'm[key] = c', the key new. -/
theorem update51 (w : World) (b clock : Nat) (k : Int) (es : Array MapEntry) (v : Value) (hb : w.heap[b]? = some (.map es clock)) (h : ∀ x ∈ es.toList, ∃ j, x.key = kv j ∧ k ≠ j) :
    (Instr.mapUpdate 54 (.map (some b)) (kv k) v).run Yba.prog w = .ok () (setBlock w b (.map (es.push ⟨kv k, v, clock⟩) (clock + 1))) := by
  simp [Instr.mapUpdate, run_underlying Yba.underlying54, MapKept.run_getObj_map hb, check51, finds k w es.toList h, MapKept.run_setObj_map _ hb, Result.andThen, setBlock]
theorem make54 (w : World) : (Instr.makeMap 54 none).run Yba.prog w = .ok (.map (some w.heap.size)) (w.alloc (.map #[] 0)) := by
  simp [Instr.makeMap, go_sem, Result.andThen]
end Go.Proofs.Ybulkcoya.Due

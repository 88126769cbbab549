/- OUR OWN TEXT. A []string, a []uint64 that came in, opened. -/
import Derived.Test.YbulkcosqClock
import Derived.ProofKit
import Derived.SliceStrings
namespace Go.Proofs.Ybulkcosq.Clock
open Go.ChangeShapes Go.WideShapes Go.ChangeAt Go.RowKit Go.Proofs.Ybulkcosq.Own

theorem open_names {H : Type} {enc : TypeId × Value → H} {W : World} {a : Option Addr} {n cap : Nat} {d : DataW H} {p : List MemPlace}
    (h : DataW.Trod enc Yba.prog W 0 (fun _ => true) true 33 (.slice a n cap) d p) : ∃ S, Names W a n S ∧ n ≤ maxLen := by
  obtain ⟨fuel, hf⟩ := h
  rcases open_strings Yba.underlying33 Yba.underlying9 (by kernel_rfl) hf with ⟨hcs, _⟩ | ⟨x, l, c, ss, hcs, _, hl, hm, hz, _, hcell, _⟩
  · simp [Value.cells] at hcs
    obtain ⟨rfl, rfl, rfl⟩ := hcs
    exact ⟨fun _ => ⟨#[]⟩, ⟨by simp, by simp⟩, Nat.zero_le _⟩
  · simp [Value.cells] at hcs
    obtain ⟨rfl, rfl, rfl⟩ := hcs
    have hz' : ss.length = cap := by simpa using hz
    refine ⟨fun i => ss.getD i ByteArray.empty, ⟨fun _ => rfl, fun i hi => ?_⟩, Nat.le_trans hl hm⟩
    have := hcell i (by omega)
    show W.cell? (cellOf (some x) i) = _
    unfold cellOf
    simpa using this

theorem open_counts {H : Type} {enc : TypeId × Value → H} {W : World} {a : Option Addr} {n cap : Nat} {d : DataW H} {p : List MemPlace}
    (h : DataW.Trod enc Yba.prog W 0 (fun _ => true) true 34 (.slice a n cap) d p) : ∃ C, Counts W a n C ∧ n ≤ maxLen := by
  obtain ⟨fuel, hf⟩ := h
  rcases open_ints Yba.underlying34 Yba.underlying42 (by kernel_rfl) hf with ⟨hcs, _⟩ | ⟨x, l, c, zs, hcs, _, hl, hm, hz, _, hcell, _⟩
  · simp [Value.cells] at hcs
    obtain ⟨rfl, rfl, rfl⟩ := hcs
    exact ⟨fun _ => 0, ⟨by simp, by simp⟩, Nat.zero_le _⟩
  · simp [Value.cells] at hcs
    obtain ⟨rfl, rfl, rfl⟩ := hcs
    have hz' : zs.length = cap := by simpa using hz
    refine ⟨fun i => zs.getD i 0, ⟨fun _ => rfl, fun i hi => ?_⟩, Nat.le_trans hl hm⟩
    have := hcell i (by omega)
    show W.cell? (cellOf (some x) i) = _
    unfold cellOf
    simpa using this
end Go.Proofs.Ybulkcosq.Clock

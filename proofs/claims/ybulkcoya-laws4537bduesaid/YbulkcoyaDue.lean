/- OUR OWN TEXT. newPacer (4), netip.AddrPortFrom (6), (*pacer).due (7): contracts. -/
import Derived.Test.YbulkcoyaKeys
import Derived.Deep.CutRange
import Derived.Deep.RegionWith
namespace Go.Proofs.Ybulkcoya.Due
open Go.RowKit
open Go.ChangeMaps (setBlock)

theorem cell_of_alloc (w : World) (o : Obj) : (w.alloc o).heap[w.heap.size]? = some o := (MapKept.heap_alloc w o).1
theorem lt_of_cell {w : World} {a : Addr} {v : Value} (h : w.cell? a = some v) : a.block < w.heap.size := by
  unfold World.cell? at h
  cases hb : w.heap[a.block]? with
  | none => rw [hb] at h; cases h
  | some o => exact (Array.getElem?_eq_some_iff.1 hb).1
theorem belowN {B : Nat} {w w' : World} (h : Below B w w') {q : Nat} : Below B w (w'.drewN q) := ⟨h.os, h.tape, h.output, h.size, h.block⟩

theorem new4 (w : World) : Calls Yba.prog 4 #[.nilFunc] w fun e w' => e = .returned (.pointer (some ⟨w.heap.size + 1 + 1, 0, none⟩)) ∧ w' = ((w.alloc (.map #[] 0)).alloc (.map #[] 0)).alloc (.cells #[.nilFunc, .map (some w.heap.size), .map (some (w.heap.size + 1)), .int .i64 0, .int .u64 0, .int .i64 0, .pointer none] 56) := by
  have hm := make54
  go_enter Yba.func4, Yba.ntmps4
  go_wp2
  go_ret
  exact ⟨rfl, rfl⟩
theorem port6 (i : Int) (w : World) : Calls Yba.prog 6 #[.agg #[.int .u64 0, .int .u64 0, .pointer none], .int .u16 i] w fun e w' => e = .returned (.agg #[.int .u64 0, .int .u64 0, .pointer none, .int .u16 i]) ∧ w' = (w.alloc (.cells #[.int .u64 0, .int .u64 0, .pointer none] 48)).alloc (.cells #[.int .u64 0, .int .u64 0, .pointer none, .int .u16 i] 51) := by
  go_enter Yba.func6, Yba.ntmps6
  go_wp2
  refine bodyPost_ret (v := .agg #[.int .u64 0, .int .u64 0, .pointer none, .int .u16 i]) (by simp [results, Yba.results6, go_sem]) rfl ⟨rfl, rfl⟩

/-- WHAT 'due' READS OF A CLIENT at block Q: held since x, sent since y (nanoseconds behind the zero time). -/
structure Client (w : World) (Q x y : Nat) : Prop where
  ex : ∃ f n c h, f < 64 ∧ 0 < n ∧ w.cell? ⟨Q, 192, none⟩ = some (.int .i64 (f : Nat)) ∧
    w.cell? ⟨Q, f * 3, none⟩ = some (.int .u64 (nano y : Int)) ∧ w.cell? ⟨Q, f * 3 + 1, none⟩ = some (.int .i64 (secs y : Int)) ∧ w.cell? ⟨Q, f * 3 + 2, none⟩ = some (.pointer none) ∧
    w.cell? ⟨Q, 194, none⟩ = some (.slice (some ⟨h, 0, none⟩) n c) ∧
    w.cell? ⟨h, 2, none⟩ = some (.int .u64 (nano x : Int)) ∧ w.cell? ⟨h, 3, none⟩ = some (.int .i64 (secs x : Int)) ∧ w.cell? ⟨h, 4, none⟩ = some (.pointer none)

theorem Client.below {w w' : World} {Q x y : Nat} (h : Client w Q x y) (hb : Below w.heap.size w w') : Client w' Q x y := by
  obtain ⟨f, n, c, h, h1, h2, h3, h4, h5, h6, h7, h8, h9, h10⟩ := h
  have k : ∀ {a : Addr} {v : Value}, w.cell? a = some v → w'.cell? a = some v := fun e => (hb.cell (lt_of_cell e)).trans e
  exact ⟨f, n, c, h, h1, h2, k h3, k h4, k h5, k h6, k h7, k h8, k h9, k h10⟩

/-- The entries of both maps after k rounds. -/
def ents (Q : Nat → Nat) (k : Nat) : Array MapEntry := ((List.range k).map fun (i : Nat) => (⟨kv i, .pointer (some ⟨Q i, 0, none⟩), i⟩ : MapEntry)).toArray

/-- v is the least of O over the i below k that p marks, and 'start' if it marks none. -/
def LeastOf (p : Nat → Bool) (O : Nat → Nat) (k : Nat) (v : Nat) : Prop := ((∀ i, i < k → p i = false) ∧ v = 0) ∨ ∃ m, v = m + 100000000 ∧ (∃ i, i < k ∧ p i = true ∧ O i = m) ∧ ∀ i, i < k → p i = true → m ≤ O i

theorem ents_mem {Q : Nat → Nat} {k : Nat} {e : MapEntry} (h : e ∈ (ents Q k).toList) : ∃ i, i < k ∧ e = ⟨kv i, .pointer (some ⟨Q i, 0, none⟩), i⟩ := by
  simp only [ents, List.mem_map, List.mem_range] at h
  obtain ⟨i, hi, rfl⟩ := h
  exact ⟨i, hi, rfl⟩
theorem ents_born (Q : Nat → Nat) (k : Nat) : (ents Q k).toList.map (·.born) = List.range k := by
  simp [ents, List.map_map, Function.comp_def]
theorem ents_in (Q : Nat → Nat) (k i : Nat) (h : i < k) : (⟨kv i, .pointer (some ⟨Q i, 0, none⟩), i⟩ : MapEntry) ∈ (ents Q k).toList := by
  simp only [ents, List.mem_map, List.mem_range]
  exact ⟨i, h, rfl⟩

theorem least_all {Q O : Nat → Nat} {k v : Nat} {seen : Array Nat} (h : LeastOf (fun i => seen.contains i) O k v) (h0 : (leftOf (ents Q k) seen).size = 0) : LeastOf (fun _ => true) O k v := by
  have ha : ∀ i, i < k → seen.contains i = true := fun i hi => all_seen _ _ h0 _ (ents_in Q k i hi)
  rcases h with ⟨h1, h2⟩ | ⟨m, h1, ⟨i, hi, _, h3⟩, h4⟩
  · refine Or.inl ⟨fun i hi => ?_, h2⟩
    have h5 : seen.contains i = false := h1 i hi
    rw [ha i hi] at h5
    cases h5
  · exact Or.inr ⟨m, h1, ⟨i, hi, rfl, h3⟩, fun j hj _ => h4 j hj (ha j hj)⟩

/-- One more is marked. -/
theorem least_step {O : Nat → Nat} {k v i : Nat} {seen : Array Nat} (h : LeastOf (fun i => seen.contains i) O k v) (hi : i < k) (v' : Nat) (hv : (v = 0 ∧ v' = O i + 100000000) ∨ (v ≠ 0 ∧ O i + 100000000 < v ∧ v' = O i + 100000000) ∨ (v ≠ 0 ∧ ¬ O i + 100000000 < v ∧ v' = v)) :
    LeastOf (fun j => (seen.push i).contains j) O k v' := by
  have hp : ∀ j, (seen.push i).contains j = (seen.contains j || j == i) := fun j => contains_push seen i j
  rcases h with ⟨h1, h2⟩ | ⟨m, h1, ⟨j, hj, hjs, h3⟩, h4⟩
  · have : v' = O i + 100000000 := by omega
    refine Or.inr ⟨O i, this, ⟨i, hi, by simp, rfl⟩, fun j hj hjs => ?_⟩
    simp only [hp, h1 j hj, Bool.false_or, beq_iff_eq] at hjs
    rw [hjs]; exact Nat.le_refl _
  · by_cases hlt : O i + 100000000 < v
    · refine Or.inr ⟨O i, by omega, ⟨i, hi, by simp, rfl⟩, fun j hj hjs => ?_⟩
      simp only [hp, Bool.or_eq_true, beq_iff_eq] at hjs
      rcases hjs with hjs | rfl
      · have := h4 j hj hjs; omega
      · exact Nat.le_refl _
    · refine Or.inr ⟨m, by omega, ⟨j, hj, by simp only [hp, hjs, Bool.true_or], h3⟩, fun j hj hjs => ?_⟩
      simp only [hp, Bool.or_eq_true, beq_iff_eq] at hjs
      rcases hjs with hjs | rfl
      · exact h4 j hj hjs
      · omega

theorem set3 {w : World} {b : Nat} {a0 a1 a2 : Value} {t : TypeId} (h : w.heap[b]? = some (.cells #[a0, a1, a2] t (0, 0))) (x y z : Value) :
    (((w.setCell ⟨b, 0, none⟩ x).setCell ⟨b, 1, none⟩ y).setCell ⟨b, 2, none⟩ z).heap[b]? = some (.cells #[x, y, z] t (0, 0)) :=
  heap_setCell_same _ b 2 _ t z (heap_setCell_same _ b 1 _ t y (heap_setCell_same w b 0 _ t x h))
theorem lt_iff (y x : Nat) : (secs y < secs x ∨ (secs y = secs x ∧ nano y < nano x)) ↔ y < x := by unfold secs nano; omega
theorem zero_iff (x : Nat) : (nano x = 0 ∧ secs x = 0) ↔ x = 0 := by unfold secs nano; omega
theorem eq_iff (y x : Nat) : (secs y = secs x ∧ nano y = nano x) ↔ y = x := by unfold secs nano; omega

/-- WHERE 'due' STANDS: the result's block N, 'next' in N + 1, the iterator in N + 2. -/
structure DueAt (w wr : World) (M k : Nat) (O : Nat → Nat) (seen : Array Nat) : Prop where
  bel : Below w.heap.size w wr
  res : wr.heap[w.heap.size]? = some (.cells #[.int .u64 0, .int .i64 0, .pointer none] 32 (0, 0))
  nxt : ∃ v, wr.heap[w.heap.size + 1]? = some (.cells #[.int .u64 (nano v : Int), .int .i64 (secs v : Int), .pointer none] 32 (0, 0)) ∧ LeastOf (fun i => seen.contains i) O k v
  it : ∃ c, k ≤ c ∧ wr.heap[w.heap.size + 1 + 1]? = some (.mapIter (some M) k seen c)

/-- .. within a round, the entry i handed out. -/
structure DueAt2 (w wr : World) (M k : Nat) (O : Nat → Nat) (seen : Array Nat) (i : Nat) : Prop where
  bel : Below w.heap.size w wr
  res : wr.heap[w.heap.size]? = some (.cells #[.int .u64 0, .int .i64 0, .pointer none] 32 (0, 0))
  nxt : ∃ v, wr.heap[w.heap.size + 1]? = some (.cells #[.int .u64 (nano v : Int), .int .i64 (secs v : Int), .pointer none] 32 (0, 0)) ∧ LeastOf (fun i => seen.contains i) O k v
  it : wr.heap[w.heap.size + 1 + 1]? = some (.mapIter (some M) k (seen.push i) k)

theorem due_next {w wr w1 w2 : World} {M k i c0 : Nat} {O : Nat → Nat} {seen : Array Nat} (h : DueAt w wr M k O seen) (hw1 : w1 = wr ∨ w1 = wr.drew) (hw2 : w2 = setBlock w1 (w.heap.size + 1 + 1) (.mapIter (some M) k (seen.push i) k)) (hit : wr.heap[w.heap.size + 1 + 1]? = some (.mapIter (some M) k seen c0)) : DueAt2 w w2 M k O seen i := by
  have hh : w1.heap = wr.heap := by rcases hw1 with rfl | rfl <;> rfl
  have hl := (Array.getElem?_eq_some_iff.1 hit).1
  have hblk : ∀ b, b ≠ w.heap.size + 1 + 1 → w2.heap[b]? = wr.heap[b]? := fun b hb => by
    subst hw2
    simp only [setBlock, hh]
    rw [Array.getElem?_setIfInBounds_ne (fun e => hb e.symm)]
  refine ⟨?_, ?_, ?_, ?_⟩
  · have hb := h.bel
    refine ⟨?_, ?_, ?_, ?_, fun b hlt => (hblk b (by omega)).trans (hb.block b hlt)⟩
    · subst hw2; rcases hw1 with rfl | rfl <;> exact hb.os
    · subst hw2; rcases hw1 with rfl | rfl <;> exact hb.tape
    · subst hw2; rcases hw1 with rfl | rfl <;> exact hb.output
    · subst hw2; simp only [setBlock, hh, Array.size_setIfInBounds]; exact hb.size
  · rw [hblk _ (by omega)]; exact h.res
  · obtain ⟨v, h1, h2⟩ := h.nxt
    exact ⟨v, by rw [hblk _ (by omega)]; exact h1, h2⟩
  · subst hw2
    simp only [setBlock, hh]
    rw [Array.getElem?_setIfInBounds_self_of_lt hl]

theorem due_same {w w2 wz : World} {M k i v : Nat} {O : Nat → Nat} {seen : Array Nat} (h : DueAt2 w w2 M k O seen i) (hB : Below w2.heap.size w2 wz) (hl : w.heap.size + 1 + 1 < w2.heap.size)
    (hv : wz.heap[w.heap.size + 1]? = some (.cells #[.int .u64 (nano v : Int), .int .i64 (secs v : Int), .pointer none] 32 (0, 0))) (hm : LeastOf (fun j => (seen.push i).contains j) O k v) : DueAt w wz M k O (seen.push i) :=
  ⟨h.bel.trans (hB.mono h.bel.size), (hB.block _ (by omega)).trans h.res, ⟨v, hv, hm⟩, ⟨k, Nat.le_refl _, (hB.block _ hl).trans h.it⟩⟩

theorem due_set {w w2 wz : World} {M k i v z : Nat} {O : Nat → Nat} {seen : Array Nat} (h : DueAt2 w w2 M k O seen i) (hB : Below w2.heap.size w2 wz) (hl : w.heap.size + 1 + 1 < w2.heap.size)
    (hv : wz.heap[w.heap.size + 1]? = some (.cells #[.int .u64 (nano v : Int), .int .i64 (secs v : Int), .pointer none] 32 (0, 0))) (hm : LeastOf (fun j => (seen.push i).contains j) O k z) :
    DueAt w (((wz.setCell ⟨w.heap.size + 1, 0, none⟩ (.int .u64 (nano z : Int))).setCell ⟨w.heap.size + 1, 1, none⟩ (.int .i64 (secs z : Int))).setCell ⟨w.heap.size + 1, 2, none⟩ (.pointer none)) M k O (seen.push i) := by
  refine ⟨((((h.bel.trans (hB.mono h.bel.size)).setCell (Nat.le_succ _) _).setCell (Nat.le_succ _) _).setCell (Nat.le_succ _) _), ?_, ⟨z, set3 hv _ _ _, hm⟩, ⟨k, Nat.le_refl _, ?_⟩⟩
  · rw [Below.heap_setCell _ _ _ _ (by simp), Below.heap_setCell _ _ _ _ (by simp), Below.heap_setCell _ _ _ _ (by simp)]; exact (hB.block _ (by omega)).trans h.res
  · rw [Below.heap_setCell _ _ _ _ (by simp), Below.heap_setCell _ _ _ _ (by simp), Below.heap_setCell _ _ _ _ (by simp)]; exact (hB.block _ hl).trans h.it

theorem due_seen {w wz : World} {M k : Nat} {O : Nat → Nat} {seen : Array Nat} (h : DueAt w wz M k O seen) : wz.iterSeen (w.heap.size + 1 + 1) = seen := by
  obtain ⟨c, _, hc⟩ := h.it
  simp [World.iterSeen, hc]

set_option maxHeartbeats 2000000 in
theorem due7 (P M k : Nat) (Q X Y : Nat → Nat) (w : World) (hP : w.cell? ⟨P, 2, none⟩ = some (.map (some M))) (hM : w.heap[M]? = some (.map (ents Q k) k)) (hC : ∀ i, i < k → Client w (Q i) (X i) (Y i)) (hX : ∀ i, i < k → X i < 4294967296) :
    Calls Yba.prog 7 #[.pointer (some ⟨P, 0, none⟩)] w fun e w' => ∃ v, e = .returned (tval (nano v) (secs v)) ∧ LeastOf (fun _ => true) (fun i => min (X i) (Y i)) k v ∧ Below w.heap.size w w' := by
  have hPl := lt_of_cell hP
  have hMl := (Array.getElem?_eq_some_iff.1 hM).1
  simp only at hPl
  have hr : ∀ w', w'.heap[M]? = some (.map (ents Q k) k) → (Instr.range 54 (.map (some M))).run Yba.prog w' = .ok (.pointer (some ⟨w'.heap.size, 0, none⟩)) (w'.alloc (.mapIter (some M) k #[] k)) := fun w' h => run_range_map w' 54 51 28 M _ k Yba.underlying54 h
  have hr1 := hr ((w.alloc (.cells #[.int .u64 0, .int .i64 0, .pointer none] 32)).alloc (.cells #[.int .u64 0, .int .i64 0, .pointer none] 32)) (by rw [Below.heap_alloc _ _ _ (by simp; omega), Below.heap_alloc _ _ _ hMl]; exact hM)
  clear hr
  have hD0 : DueAt w (((w.alloc (.cells #[.int .u64 0, .int .i64 0, .pointer none] 32)).alloc (.cells #[.int .u64 0, .int .i64 0, .pointer none] 32)).alloc (.mapIter (some M) k #[] k)) M k (fun i => min (X i) (Y i)) #[] := by
    refine ⟨(((Below.refl _ w).alloc (Nat.le_refl _) _).alloc (by simp) _).alloc (by simp <;> omega) _, ?_, ⟨0, ?_, Or.inl ⟨fun i _ => by simp, rfl⟩⟩, ⟨k, Nat.le_refl _, ?_⟩⟩
    · rw [Below.heap_alloc _ _ _ (by simp <;> omega), Below.heap_alloc _ _ _ (by simp)]; exact cell_of_alloc w _
    · rw [Below.heap_alloc _ _ _ (by simp)]; simpa [nano, secs] using cell_of_alloc (w.alloc (.cells #[.int .u64 0, .int .i64 0, .pointer none] 32)) (.cells #[.int .u64 0, .int .i64 0, .pointer none] 32)
    · simpa using cell_of_alloc ((w.alloc (.cells #[.int .u64 0, .int .i64 0, .pointer none] 32)).alloc (.cells #[.int .u64 0, .int .i64 0, .pointer none] 32)) (.mapIter (some M) k #[] k)
  obtain ⟨w3, hw3⟩ : ∃ w3, w3 = (((w.alloc (.cells #[.int .u64 0, .int .i64 0, .pointer none] 32)).alloc (.cells #[.int .u64 0, .int .i64 0, .pointer none] 32)).alloc (.mapIter (some M) k #[] k)) := ⟨_, rfl⟩
  rw [← hw3] at hD0
  generalize hO : (fun i => min (X i) (Y i)) = O at *
  go_enter Yba.func7, Yba.ntmps7
  go_wp2_with fail
  rw [← hw3]
  clear hw3 hr1
  go_loopw [] (fun wr => ∃ seen, DueAt w wr M k O seen) (fun wr => (leftOf (ents Q k) (wr.iterSeen (w.heap.size + 1 + 1))).size)
  case atStart => exact ⟨_, hD0⟩
  case round =>
    clear hD0
    obtain ⟨seen, hD⟩ := hrel
    obtain ⟨c0, hc0, hit⟩ := hD.it
    have hMr := (hD.bel.block M hMl).trans hM
    rcases run_next_at (P := Yba.prog) wr 0 (w.heap.size + 1 + 1) M k c0 seen (ents Q k) k hit hMr (fun x hx => by obtain ⟨i, hi, rfl⟩ := ents_mem hx; exact hi) hc0 with ⟨h0, hrun⟩ | ⟨e, he, w1, hw1, hrun⟩
    · obtain ⟨v, hv, hl⟩ := hD.nxt
      have n0 : wr.cell? ⟨w.heap.size + 1, 0, none⟩ = some (.int .u64 (nano v : Int)) := by rw [cell_of_row _ _ _ _ _ _ hv]; rfl
      have n1 : wr.cell? ⟨w.heap.size + 1, 1, none⟩ = some (.int .i64 (secs v : Int)) := by rw [cell_of_row _ _ _ _ _ _ hv]; rfl
      have n2 : wr.cell? ⟨w.heap.size + 1, 2, none⟩ = some (.pointer none) := by rw [cell_of_row _ _ _ _ _ _ hv]; rfl
      have r0 : wr.cell? ⟨w.heap.size, 0, none⟩ = some (.int .u64 0) := by rw [cell_of_row _ _ _ _ _ _ hD.res]; rfl
      have r1 : wr.cell? ⟨w.heap.size, 1, none⟩ = some (.int .i64 0) := by rw [cell_of_row _ _ _ _ _ _ hD.res]; rfl
      have r2 : wr.cell? ⟨w.heap.size, 2, none⟩ = some (.pointer none) := by rw [cell_of_row _ _ _ _ _ _ hD.res]; rfl
      have f0 : ∀ o, wr.frozen? ⟨w.heap.size, o, none⟩ = false := fun o => by simp [World.frozen?, hD.res]
      have HL : Hid _ := hl
      have HD : Hid _ := hD
      clear hD hl hv hit hMr
      go_wp2_with fail
      refine bodyPost_ret (v := tval (nano v) (secs v)) (by simp [results, Yba.results7, go_sem, r0, r1, r2]) rfl ⟨v, rfl, least_all HL.out h0, ?_⟩
      exact ((HD.out.bel.setCell (Nat.le_refl _) _).setCell (Nat.le_refl _) _).setCell (Nat.le_refl _) _
    · obtain ⟨hin, hns⟩ := mem_left he
      obtain ⟨i, hi, rfl⟩ := ents_mem hin
      obtain ⟨w2, hw2⟩ : ∃ w2, w2 = setBlock w1 (w.heap.size + 1 + 1) (.mapIter (some M) k (seen.push i) k) := ⟨_, rfl⟩
      have hD2 : DueAt2 w w2 M k O seen i := due_next hD hw1 hw2 hit
      have hms : (leftOf (ents Q k) (seen.push i)).size < (leftOf (ents Q k) seen).size := left_shrinks _ _ _ he
      have hsw : wr.iterSeen (w.heap.size + 1 + 1) = seen := by simp [World.iterSeen, hit]
      simp only [← hw2] at hrun
      have hen := run_entry_at (P := Yba.prog) w2 (w.heap.size + 1 + 1) M k seen (ents Q k) k _ hD2.it ((hD2.bel.block M hMl).trans hM) hin (by rw [ents_born]; exact List.nodup_range)
      obtain ⟨f, n, c, h, q1, q2, q3, q4, q5, q6, q7, q8, q9, q10⟩ := ((hC i hi).below hD2.bel).ex
      have HD : Hid _ := hD2
      clear hD hD2 hit hMr hw1 hw2 he hin
      simp only at hrun hen
      have hl1 := lt_of_cell q3
      have hl2 := lt_of_cell q8
      simp only at hl1 hl2
      obtain ⟨W, hW⟩ : ∃ W, W = w2.alloc (.cells #[.int .u64 (nano (X i) : Int), .int .i64 (secs (X i) : Int), .pointer none] 32) := ⟨_, rfl⟩
      have hBW : Below w2.heap.size w2 W := by rw [hW]; exact (Below.refl _ _).alloc (Nat.le_refl _) _
      have hold : W.heap[w2.heap.size]? = some (.cells #[.int .u64 (nano (X i) : Int), .int .i64 (secs (X i) : Int), .pointer none] 32 (0, 0)) := by rw [hW]; exact cell_of_alloc w2 _
      have hWs : W.heap.size = w2.heap.size + 1 := by rw [hW]; simp
      go_wp2_with fail
      rw [← hW]
      clear hW hrun hen
      have g3 : W.cell? ⟨Q i, 192, none⟩ = some (.int .i64 (f : Nat)) := (hBW.cell hl1).trans q3
      have g4 : W.cell? ⟨Q i, f * 3, none⟩ = some (.int .u64 (nano (Y i) : Int)) := (hBW.cell hl1).trans q4
      have g5 : W.cell? ⟨Q i, f * 3 + 1, none⟩ = some (.int .i64 (secs (Y i) : Int)) := (hBW.cell hl1).trans q5
      have g6 : W.cell? ⟨Q i, f * 3 + 2, none⟩ = some (.pointer none) := (hBW.cell hl1).trans q6
      have o0 : W.cell? ⟨w2.heap.size, 0, none⟩ = some (.int .u64 (nano (X i) : Int)) := by rw [cell_of_row _ _ _ _ _ _ hold]; rfl
      have o1 : W.cell? ⟨w2.heap.size, 1, none⟩ = some (.int .i64 (secs (X i) : Int)) := by rw [cell_of_row _ _ _ _ _ _ hold]; rfl
      have o2 : W.cell? ⟨w2.heap.size, 2, none⟩ = some (.pointer none) := by rw [cell_of_row _ _ _ _ _ _ hold]; rfl
      obtain ⟨bb, hbb⟩ : ∃ bb, decide (secs (Y i) < secs (X i) ∨ (secs (Y i) = secs (X i) ∧ nano (Y i) < nano (X i))) = bb := ⟨_, rfl⟩
      have hbo := fun w => before14 (nano (Y i)) (secs (Y i)) (nano (X i)) (secs (X i)) w (nano_lt _) (nano_lt _)
      rw [hbb] at hbo
      have HB : Hid _ := hbo
      have Hbb : Hid _ := hbb
      clear q3 q4 q5 q6 q7 q8 q9 q10 hbo hbb
      go_cut [34] from 13 to 53 (fun s wc => s = .bool bb ∧ Below W.heap.size W wc)
      case first =>
        go_region_with (go_at_call 14; refine Calls.mono (HB.out _) ?_; rintro e w' ⟨rfl, rfl⟩)
        all_goals (go_wp2_with fail; go_meet; refine ⟨rfl, ?_⟩; repeat (first | refine Below.drew ?_ | exact ((Below.refl _ W).alloc (Nat.le_refl _) _).alloc (by simp) _))
      case rest =>
        obtain ⟨rfl, hBc⟩ := hcut
        have hWc := hBc.size
        have hold' : wc.heap[w2.heap.size]? = some (.cells #[.int .u64 (nano (X i) : Int), .int .i64 (secs (X i) : Int), .pointer none] 32 (0, 0)) := (hBc.block _ (by omega)).trans hold
        have hBw : Below w2.heap.size w2 wc := hBW.trans (hBc.mono (by omega))
        go_upto_if 34 with fail
        go_cut [] from 13 to 53 (fun wd => wd.heap[w2.heap.size]? = some (.cells #[.int .u64 (nano (O i) : Int), .int .i64 (secs (O i) : Int), .pointer none] 32 (0, 0)) ∧ Below w2.heap.size w2 wd)
        case first =>
          have hlt := lt_iff (Y i) (X i)
          have hOi : O i = min (X i) (Y i) := by rw [← hO]
          cases bb with
          | false =>
            have : ¬ Y i < X i := by rw [← hlt]; simpa using Hbb.out
            have hOX : O i = X i := by omega
            go_wp2_with fail
            go_meet
            rw [hOX]; exact ⟨hold', hBw⟩
          | true =>
            have : Y i < X i := by rw [← hlt]; simpa using Hbb.out
            have hOY : O i = Y i := by omega
            have g3' := (hBc.cell (p := ⟨Q i, 192, none⟩) (by show Q i < _; omega)).trans g3
            have g4' := (hBc.cell (p := ⟨Q i, f * 3, none⟩) (by show Q i < _; omega)).trans g4
            have g5' := (hBc.cell (p := ⟨Q i, f * 3 + 1, none⟩) (by show Q i < _; omega)).trans g5
            have g6' := (hBc.cell (p := ⟨Q i, f * 3 + 2, none⟩) (by show Q i < _; omega)).trans g6
            have o0' : wc.cell? ⟨w2.heap.size, 0, none⟩ = some (.int .u64 (nano (X i) : Int)) := by rw [cell_of_row _ _ _ _ _ _ hold']; rfl
            have o1' : wc.cell? ⟨w2.heap.size, 1, none⟩ = some (.int .i64 (secs (X i) : Int)) := by rw [cell_of_row _ _ _ _ _ _ hold']; rfl
            have o2' : wc.cell? ⟨w2.heap.size, 2, none⟩ = some (.pointer none) := by rw [cell_of_row _ _ _ _ _ _ hold']; rfl
            have of' : ∀ o, wc.frozen? ⟨w2.heap.size, o, none⟩ = false := fun o => by simp [World.frozen?, hold']
            have HOY : Hid _ := hOY
            have HO' : Hid _ := hold'
            have HBw : Hid _ := hBw
            clear hOY hOi hlt g3 g4 g5 g6 o0 o1 o2 hold hold' hBw
            go_wp2_with fail
            go_region
            all_goals (go_wp2_with fail; go_meet; rw [HOY.out]; exact ⟨set3 HO'.out _ _ _, (((HBw.out.setCell (Nat.le_refl _) _).setCell (Nat.le_refl _) _).setCell (Nat.le_refl _) _).drew⟩)
        case rest =>
          obtain ⟨hod, hBd⟩ := hcut
          have hsz2 := hBd.size
          have hsd := HD.out.bel.size
          have hit2 := (Array.getElem?_eq_some_iff.1 HD.out.it).1
          obtain ⟨v, hv, hlv⟩ := HD.out.nxt
          have HLV : Hid _ := hlv
          have hvd := (hBd.block (w.heap.size + 1) (by omega)).trans hv
          have a0 : wc.cell? ⟨w2.heap.size, 0, none⟩ = some (.int .u64 (nano (O i) : Int)) := by rw [cell_of_row _ _ _ _ _ _ hod]; rfl
          have a1 : wc.cell? ⟨w2.heap.size, 1, none⟩ = some (.int .i64 (secs (O i) : Int)) := by rw [cell_of_row _ _ _ _ _ _ hod]; rfl
          have a2 : wc.cell? ⟨w2.heap.size, 2, none⟩ = some (.pointer none) := by rw [cell_of_row _ _ _ _ _ _ hod]; rfl
          have hOi : O i < 4294967296 := by have := hX i hi; rw [← hO]; show min (X i) (Y i) < _; omega
          clear hlv hv hold' hBw hold g3 g4 g5 g6 o0 o1 o2 hod
          go_wp2_with fail
          refine Calls.mono (add5 (O i) 100000000 wc (by omega) (by omega)) ?_
          rintro e w5 ⟨rfl, hw5⟩
          have hB5 : Below wc.heap.size wc w5 := by rw [hw5]; exact ((Below.refl _ wc).alloc (Nat.le_refl _) _).alloc (by simp) _
          clear hw5
          generalize hat : O i + 100000000 = z at *
          have hs5 := hB5.size
          obtain ⟨w6, hw6⟩ : ∃ w6, w6 = w5.alloc (.cells #[.int .u64 (nano z : Int), .int .i64 (secs z : Int), .pointer none] 32) := ⟨_, rfl⟩
          have hB6 : Below w2.heap.size w2 w6 := by rw [hw6]; exact (hBd.trans (hB5.mono hsz2)).alloc (by omega) _
          have hz6 : w6.heap[w5.heap.size]? = some (.cells #[.int .u64 (nano z : Int), .int .i64 (secs z : Int), .pointer none] 32 (0, 0)) := by rw [hw6]; exact cell_of_alloc w5 _
          have hv6 : w6.heap[w.heap.size + 1]? = some (.cells #[.int .u64 (nano v : Int), .int .i64 (secs v : Int), .pointer none] 32 (0, 0)) := by
            rw [hw6, Below.heap_alloc _ _ _ (by omega)]; exact (hB5.block _ (by omega)).trans hvd
          have v0 : (w5.alloc (.cells #[.int .u64 (nano z : Int), .int .i64 (secs z : Int), .pointer none] 32)).cell? ⟨w.heap.size + 1, 0, none⟩ = some (.int .u64 (nano v : Int)) := by rw [← hw6, cell_of_row _ _ _ _ _ _ hv6]; rfl
          have v1 : (w5.alloc (.cells #[.int .u64 (nano z : Int), .int .i64 (secs z : Int), .pointer none] 32)).cell? ⟨w.heap.size + 1, 1, none⟩ = some (.int .i64 (secs v : Int)) := by rw [← hw6, cell_of_row _ _ _ _ _ _ hv6]; rfl
          have v2 : (w5.alloc (.cells #[.int .u64 (nano z : Int), .int .i64 (secs z : Int), .pointer none] 32)).cell? ⟨w.heap.size + 1, 2, none⟩ = some (.pointer none) := by rw [← hw6, cell_of_row _ _ _ _ _ _ hv6]; rfl
          go_wp2_with fail
          rw [← hw6]
          have HZ8 : Hid _ := zero8 (nano v) (secs v) w6
          have hzi := zero_iff v
          by_cases hv0 : v = 0
          · have hdz : decide (nano v = 0 ∧ secs v = 0) = true := decide_eq_true (hzi.2 hv0)
            refine Calls.mono HZ8.out ?_
            rintro e w7 ⟨rfl, hw7⟩
            rw [hdz]
            have hB7 : Below w6.heap.size w6 w7 := by rw [hw7]; exact (Below.refl _ w6).alloc (Nat.le_refl _) _
            have hs6 := hB6.size
            have hl6 := (Array.getElem?_eq_some_iff.1 hz6).1
            have hz7 := (hB7.block _ hl6).trans hz6
            have hv7 := (hB7.block _ (by omega)).trans hv6
            have z0 : w7.cell? ⟨w5.heap.size, 0, none⟩ = some (.int .u64 (nano z : Int)) := by rw [cell_of_row _ _ _ _ _ _ hz7]; rfl
            have z1 : w7.cell? ⟨w5.heap.size, 1, none⟩ = some (.int .i64 (secs z : Int)) := by rw [cell_of_row _ _ _ _ _ _ hz7]; rfl
            have z2 : w7.cell? ⟨w5.heap.size, 2, none⟩ = some (.pointer none) := by rw [cell_of_row _ _ _ _ _ _ hz7]; rfl
            have y0 : w7.cell? ⟨w.heap.size + 1, 0, none⟩ = some (.int .u64 (nano v : Int)) := by rw [cell_of_row _ _ _ _ _ _ hv7]; rfl
            have y1 : w7.cell? ⟨w.heap.size + 1, 1, none⟩ = some (.int .i64 (secs v : Int)) := by rw [cell_of_row _ _ _ _ _ _ hv7]; rfl
            have y2 : w7.cell? ⟨w.heap.size + 1, 2, none⟩ = some (.pointer none) := by rw [cell_of_row _ _ _ _ _ _ hv7]; rfl
            have yf : ∀ o, w7.frozen? ⟨w.heap.size + 1, o, none⟩ = false := fun o => by simp [World.frozen?, hv7]
            have HE : Hid _ := due_set HD.out (hB6.trans (hB7.mono hs6)) hit2 hv7 (least_step HLV.out hi z (Or.inl ⟨hv0, hat.symm⟩))
            clear hw6 hw7 v0 v1 v2 hv6 hz6 hv7 hz7 hdz hv0 hzi
            go_wp2_with fail
            go_roundw
            case rel => exact ⟨_, HE.out⟩
            case measure => rw [due_seen HE.out, hsw]; exact hms
          · have hdz : decide (nano v = 0 ∧ secs v = 0) = false := decide_eq_false (fun h => hv0 (hzi.1 h))
            refine Calls.mono HZ8.out ?_
            rintro e w7 ⟨rfl, hw7⟩
            rw [hdz]
            have hB7 : Below w6.heap.size w6 w7 := by rw [hw7]; exact (Below.refl _ w6).alloc (Nat.le_refl _) _
            have hs6 := hB6.size
            have hl6 := (Array.getElem?_eq_some_iff.1 hz6).1
            have hz7 := (hB7.block _ hl6).trans hz6
            have hv7 := (hB7.block _ (by omega)).trans hv6
            have hs7 := hB7.size
            have z0 : w7.cell? ⟨w5.heap.size, 0, none⟩ = some (.int .u64 (nano z : Int)) := by rw [cell_of_row _ _ _ _ _ _ hz7]; rfl
            have z1 : w7.cell? ⟨w5.heap.size, 1, none⟩ = some (.int .i64 (secs z : Int)) := by rw [cell_of_row _ _ _ _ _ _ hz7]; rfl
            have z2 : w7.cell? ⟨w5.heap.size, 2, none⟩ = some (.pointer none) := by rw [cell_of_row _ _ _ _ _ _ hz7]; rfl
            have y0 : w7.cell? ⟨w.heap.size + 1, 0, none⟩ = some (.int .u64 (nano v : Int)) := by rw [cell_of_row _ _ _ _ _ _ hv7]; rfl
            have y1 : w7.cell? ⟨w.heap.size + 1, 1, none⟩ = some (.int .i64 (secs v : Int)) := by rw [cell_of_row _ _ _ _ _ _ hv7]; rfl
            have y2 : w7.cell? ⟨w.heap.size + 1, 2, none⟩ = some (.pointer none) := by rw [cell_of_row _ _ _ _ _ _ hv7]; rfl
            have HBF : Hid _ := before14 (nano z) (secs z) (nano v) (secs v) w7 (nano_lt _) (nano_lt _)
            have hlt := lt_iff z v
            clear hw6 hw7 v0 v1 v2 hv6 hz6 hdz hzi
            go_wp2_with fail
            refine Calls.mono HBF.out ?_
            rintro e w8 ⟨rfl, hw8⟩
            have hB8 : Below w7.heap.size w7 w8 := by rw [hw8]; exact ((Below.refl _ w7).alloc (Nat.le_refl _) _).alloc (by simp) _
            clear hw8 HBF z0 z1 z2 y0 y1 y2
            have hz8 := (hB8.block _ (by omega)).trans hz7
            have hv8 := (hB8.block _ (by omega)).trans hv7
            have hB68 : Below w2.heap.size w2 w8 := (hB6.trans (hB7.mono hs6)).trans (hB8.mono (by omega))
            by_cases hzv : z < v
            · have hdb : decide (secs z < secs v ∨ (secs z = secs v ∧ nano z < nano v)) = true := decide_eq_true (hlt.2 hzv)
              rw [hdb]
              have z0 : w8.cell? ⟨w5.heap.size, 0, none⟩ = some (.int .u64 (nano z : Int)) := by rw [cell_of_row _ _ _ _ _ _ hz8]; rfl
              have z1 : w8.cell? ⟨w5.heap.size, 1, none⟩ = some (.int .i64 (secs z : Int)) := by rw [cell_of_row _ _ _ _ _ _ hz8]; rfl
              have z2 : w8.cell? ⟨w5.heap.size, 2, none⟩ = some (.pointer none) := by rw [cell_of_row _ _ _ _ _ _ hz8]; rfl
              have y0 : w8.cell? ⟨w.heap.size + 1, 0, none⟩ = some (.int .u64 (nano v : Int)) := by rw [cell_of_row _ _ _ _ _ _ hv8]; rfl
              have y1 : w8.cell? ⟨w.heap.size + 1, 1, none⟩ = some (.int .i64 (secs v : Int)) := by rw [cell_of_row _ _ _ _ _ _ hv8]; rfl
              have y2 : w8.cell? ⟨w.heap.size + 1, 2, none⟩ = some (.pointer none) := by rw [cell_of_row _ _ _ _ _ _ hv8]; rfl
              have yf : ∀ o, w8.frozen? ⟨w.heap.size + 1, o, none⟩ = false := fun o => by simp [World.frozen?, hv8]
              have HE : Hid _ := due_set HD.out hB68 hit2 hv8 (least_step HLV.out hi z (Or.inr (Or.inl ⟨hv0, by omega, hat.symm⟩)))
              clear hv7 hz7 hv8 hz8 hdb hv0 hlt hzv
              go_wp2_with fail
              go_roundw
              case rel => exact ⟨_, HE.out⟩
              case measure => rw [due_seen HE.out, hsw]; exact hms
            · have hdb : decide (secs z < secs v ∨ (secs z = secs v ∧ nano z < nano v)) = false := decide_eq_false (fun h => hzv (hlt.1 h))
              rw [hdb]
              have HE : Hid _ := due_same HD.out hB68 hit2 hv8 (least_step HLV.out hi v (Or.inr (Or.inr ⟨hv0, by omega, rfl⟩)))
              clear hv7 hz7 hv8 hz8 hdb hv0 hlt hzv
              go_wp2_with fail
              go_roundw
              case rel => exact ⟨_, HE.out⟩
              case measure => rw [due_seen HE.out, hsw]; exact hms
end Go.Proofs.Ybulkcoya.Due

/- OUR OWN TEXT. The closure that gathers names and counts: LawS4527CExact$1 (10) and LawS4527CTicks$1 (13), which is the same text. -/
import Derived.Test.YbulkcosqClock
namespace Go.Proofs.Ybulkcosq.Clock
open Go.RowKit Go.Proofs.Ybulkcosq.Own

theorem info9 : (Yba.prog.info? 9).map (fun i => (i.zero, i.size, i.bytes)) = some (some (.string ⟨#[]⟩), 1, 16) := by kernel_rfl
theorem info42 : (Yba.prog.info? 42).map (fun i => (i.zero, i.size, i.bytes)) = some (some (.int .u64 0), 1, 8) := by kernel_rfl

def nameCells (S : Nat → ByteArray) (k : Nat) : List Value := (List.range k).map fun i => .string (S i)
def countCells (C : Nat → Int) (k : Nat) : List Value := (List.range k).map fun i => .int .u64 (C i)
theorem nameCells_step (S : Nat → ByteArray) (k : Nat) : nameCells S (k + 1) = nameCells S k ++ [.string (S k)] := by simp [nameCells, List.range_succ]
theorem countCells_step (C : Nat → Int) (k : Nat) : countCells C (k + 1) = countCells C k ++ [.int .u64 (C k)] := by simp [countCells, List.range_succ]

/-- WHAT HAS BEEN GATHERED AFTER k CALLS: gn lies in block P, gc in block P + 1; below P nothing has turned since w0. -/
structure Gath (w0 wr : World) (P k : Nat) (S : Nat → ByteArray) (C : Nat → Int) (v1 v2 : Value) : Prop where
  bel : Below P w0 wr
  b1 : wr.heap[P]? = some (.cells #[v1] 33 (0, 0))
  b2 : wr.heap[P + 1]? = some (.cells #[v2] 34 (0, 0))
  o1 : wr.ownsRow (P + 2) 9 1 v1 k (nameCells S k)
  o2 : wr.ownsRow (P + 2) 42 1 v2 k (countCells C k)

theorem Gath.lt {w0 wr : World} {P k : Nat} {S : Nat → ByteArray} {C : Nat → Int} {v1 v2 : Value} (h : Gath w0 wr P k S C v1 v2) : P + 1 < wr.heap.size := (Array.getElem?_eq_some_iff.1 h.b2).1

theorem Gath.alloc {w0 wr : World} {P k : Nat} {S : Nat → ByteArray} {C : Nat → Int} {v1 v2 : Value} (h : Gath w0 wr P k S C v1 v2) (o : Obj) : Gath w0 (wr.alloc o) P k S C v1 v2 :=
  ⟨h.bel.alloc (by have := h.lt; omega) _, by rw [Below.heap_alloc _ _ _ (by have := h.lt; omega)]; exact h.b1, by rw [Below.heap_alloc _ _ _ h.lt]; exact h.b2, h.o1.alloc o, h.o2.alloc o⟩

/-- A row of one element type is no row of another. -/
theorem own_apart {w : World} {b1 b2 : Nat} {e1 e2 : TypeId} {s1 s2 : Nat} {v1 v2 : Value} {n1 n2 : Nat} {x1 x2 : List Value} (h1 : w.ownsRow b1 e1 s1 v1 n1 x1) (h2 : w.ownsRow b2 e2 s2 v2 n2 x2) (he : e1 ≠ e2) : v1.ownBlock = none ∨ v1.ownBlock ≠ v2.ownBlock := by
  rcases h1.2 with ⟨rfl, _⟩ | ⟨g, cap, cur, rfl, _, hg, _⟩
  · exact Or.inl rfl
  · right
    rcases h2.2 with ⟨rfl, _⟩ | ⟨g2, cap2, cur2, rfl, _, hg2, _⟩
    · simp [Value.ownBlock]
    · intro e
      simp only [Value.ownBlock, Option.some.injEq] at e
      subst e
      rw [hg] at hg2
      simp only [Option.some.injEq, Obj.cells.injEq] at hg2
      exact he hg2.2.1

theorem isSlice_of_own {w : World} {b : Nat} {e : TypeId} {s : Nat} {v : Value} {n : Nat} {xs : List Value} (h : w.ownsRow b e s v n xs) : ∃ a c, v = .slice a n c := by
  rcases h.2 with ⟨rfl, rfl⟩ | ⟨g, cap, cur, rfl, _⟩
  · exact ⟨_, _, rfl⟩
  · exact ⟨_, _, rfl⟩

/-- 'gn = append(gn, s)', then the store into its variable. -/
theorem Gath.first {w0 wr w1 : World} {P k : Nat} {S : Nat → ByteArray} {C : Nat → Int} {v1 v2 v' : Value} {o : Obj} (h : Gath w0 wr P k S C v1 v2) (hown : w1.ownsRow (P + 2) 9 1 v' (k + 1) (nameCells S k ++ [.string (S k)])) (hg : (wr.alloc o).grownBy w1 v1.ownBlock) :
    Below P w0 (w1.setCell ⟨P, 0, none⟩ v') ∧ (w1.setCell ⟨P, 0, none⟩ v').heap[P]? = some (.cells #[v'] 33 (0, 0)) ∧ (w1.setCell ⟨P, 0, none⟩ v').heap[P + 1]? = some (.cells #[v2] 34 (0, 0)) ∧
      (w1.setCell ⟨P, 0, none⟩ v').ownsRow (P + 2) 9 1 v' (k + 1) (nameCells S (k + 1)) ∧ (w1.setCell ⟨P, 0, none⟩ v').ownsRow (P + 2) 42 1 v2 k (countCells C k) := by
  have ha := h.alloc o
  have hl := ha.lt
  have hb1 : w1.heap[P]? = some (.cells #[v1] 33 (0, 0)) := by rw [hg.block P (by omega) (fun e => by have := (ha.o1.lt P e.symm).1; omega)]; exact ha.b1
  have hb2 : w1.heap[P + 1]? = some (.cells #[v2] 34 (0, 0)) := by rw [hg.block (P + 1) (by omega) (fun e => by have := (ha.o1.lt (P + 1) e.symm).1; omega)]; exact ha.b2
  refine ⟨?_, ?_, ?_, ?_, ?_⟩
  · exact (ha.bel.grown hg (by omega) (fun b hb => by have := (ha.o1.lt b hb).1; omega)).setCell (Nat.le_refl _) _
  · simp [World.setCell, Array.getElem?_modify, hb1]
  · rw [Below.heap_setCell _ _ _ _ (by simp)]; exact hb2
  · rw [nameCells_step]; exact ownsRow_setCell_below hown (by simp) _
  · exact ownsRow_setCell_below (ha.o2.kept hg (own_apart ha.o2 ha.o1 (by decide))) (by simp) _

theorem Gath.second {w0 wr w1 : World} {P k : Nat} {S : Nat → ByteArray} {C : Nat → Int} {v1 v2 v' : Value} {o : Obj} (hbel : Below P w0 wr) (b1 : wr.heap[P]? = some (.cells #[v1] 33 (0, 0))) (b2 : wr.heap[P + 1]? = some (.cells #[v2] 34 (0, 0)))
    (o1 : wr.ownsRow (P + 2) 9 1 v1 (k + 1) (nameCells S (k + 1))) (o2 : wr.ownsRow (P + 2) 42 1 v2 k (countCells C k))
    (hown : w1.ownsRow (P + 2) 42 1 v' (k + 1) (countCells C k ++ [.int .u64 (C k)])) (hg : (wr.alloc o).grownBy w1 v2.ownBlock) : Gath w0 (w1.setCell ⟨P + 1, 0, none⟩ v') P (k + 1) S C v1 v' := by
  have hl := (Array.getElem?_eq_some_iff.1 b2).1
  have p1 := o1.alloc o
  have p2 := o2.alloc o
  have c1 : w1.heap[P]? = some (.cells #[v1] 33 (0, 0)) := by
    rw [hg.block P (by simp; omega) (fun e => by have := (p2.lt P e.symm).1; omega), Below.heap_alloc _ _ _ (by omega)]; exact b1
  have c2 : w1.heap[P + 1]? = some (.cells #[v2] 34 (0, 0)) := by
    rw [hg.block (P + 1) (by simp; omega) (fun e => by have := (p2.lt (P + 1) e.symm).1; omega), Below.heap_alloc _ _ _ hl]; exact b2
  refine ⟨?_, ?_, ?_, ?_, ?_⟩
  · exact ((hbel.alloc (by omega) o).grown hg (by simp; omega) (fun b hb => by have := (p2.lt b hb).1; omega)).setCell (by simp) _
  · rw [Below.heap_setCell _ _ _ _ (by simp)]; exact c1
  · simp [World.setCell, Array.getElem?_modify, c2]
  · exact ownsRow_setCell_below (p1.kept hg (own_apart p1 p2 (by decide))) (by simp) _
  · rw [countCells_step]; exact ownsRow_setCell_below hown (by simp) _

theorem one_string (s : ByteArray) : ∀ u ∈ [Value.string s], u.oneCell' = true := by
  intro u hu
  simp only [List.mem_singleton] at hu
  subst hu; rfl

theorem set_alloc (w : World) (a : Addr) (v : Value) (o : Obj) : ((w.setCell a v).alloc o).heap[w.heap.size]? = some o := by
  have := cell_of_alloc (w.setCell a v) o
  simpa [World.setCell] using this

/-- Behind the first append: the two variables' cells. -/
theorem Gath.between {w0 wr w1 : World} {P k : Nat} {S : Nat → ByteArray} {C : Nat → Int} {v1 v2 : Value} {o : Obj} (h : Gath w0 wr P k S C v1 v2) (hg : (wr.alloc o).grownBy w1 v1.ownBlock) :
    w1.cell? ⟨P, 0, none⟩ = some v1 ∧ w1.frozen? ⟨P, 0, none⟩ = false ∧ w1.cell? ⟨P + 1, 0, none⟩ = some v2 ∧ w1.frozen? ⟨P + 1, 0, none⟩ = false := by
  have ha := h.alloc o
  have hl := ha.lt
  have hb1 : w1.heap[P]? = some (.cells #[v1] 33 (0, 0)) := by rw [hg.block P (by omega) (fun e => by have := (ha.o1.lt P e.symm).1; omega)]; exact ha.b1
  have hb2 : w1.heap[P + 1]? = some (.cells #[v2] 34 (0, 0)) := by rw [hg.block (P + 1) (by omega) (fun e => by have := (ha.o1.lt (P + 1) e.symm).1; omega)]; exact ha.b2
  exact ⟨by rw [cell_of_row _ _ _ _ _ _ hb1]; rfl, by simp [World.frozen?, hb1], by rw [cell_of_row _ _ _ _ _ _ hb2]; rfl, by simp [World.frozen?, hb2]⟩

theorem between2 {w0 wr w2 : World} {P k : Nat} {S : Nat → ByteArray} {C : Nat → Int} {v1 v2 : Value} {o : Obj}
    (h : Below P w0 wr ∧ wr.heap[P]? = some (.cells #[v1] 33 (0, 0)) ∧ wr.heap[P + 1]? = some (.cells #[v2] 34 (0, 0)) ∧ wr.ownsRow (P + 2) 9 1 v1 (k + 1) (nameCells S (k + 1)) ∧ wr.ownsRow (P + 2) 42 1 v2 k (countCells C k)) (hg : (wr.alloc o).grownBy w2 v2.ownBlock) :
    w2.cell? ⟨P + 1, 0, none⟩ = some v2 ∧ w2.frozen? ⟨P + 1, 0, none⟩ = false := by
  obtain ⟨_, _, b2, _, o2⟩ := h
  have hl := (Array.getElem?_eq_some_iff.1 b2).1
  have p2 := o2.alloc o
  have c2 : w2.heap[P + 1]? = some (.cells #[v2] 34 (0, 0)) := by
    rw [hg.block (P + 1) (by simp; omega) (fun e => by have := (p2.lt (P + 1) e.symm).1; omega), Below.heap_alloc _ _ _ hl]; exact b2
  exact ⟨by rw [cell_of_row _ _ _ _ _ _ c2]; rfl, by simp [World.frozen?, c2]⟩

set_option maxHeartbeats 1000000 in
theorem gath10 (w0 w : World) (P k : Nat) (S : Nat → ByteArray) (C : Nat → Int) (v1 v2 : Value) (h : Gath w0 w P k S C v1 v2) (hk : k ≤ 4096) :
    Calls Yba.prog 10 #[.string (S k), .int .u64 (C k), .pointer (some ⟨P, 0, none⟩), .pointer (some ⟨P + 1, 0, none⟩)] w fun e w' => e = .returned (.bool true) ∧ ∃ v1 v2, Gath w0 w' P (k + 1) S C v1 v2 := by
  obtain ⟨i9, hi9, hz90, hz91, hz92⟩ := info_parts info9
  obtain ⟨i42, hi42, hz420, hz421, hz422⟩ := info_parts info42
  have hlt := h.lt
  obtain ⟨aa1, cc1, hv1⟩ := isSlice_of_own h.o1
  obtain ⟨aa2, cc2, hv2⟩ := isSlice_of_own h.o2
  have e1 : w.cell? ⟨P, 0, none⟩ = some v1 := by rw [cell_of_row _ _ _ _ _ _ h.b1]; rfl
  subst hv1
  subst hv2
  have HH : Hid (Gath w0 w P k S C (.slice aa1 k cc1) (.slice aa2 k cc2)) := h
  have hbase : P + 2 ≤ w.heap.size := by omega
  clear h
  go_enter Yba.func10, Yba.ntmps10
  go_wp2_with (first
    | (at_builtin; refine wpList_append_lies _ (by rfl) (.tmp 7) (.tmp 9) 33 (by rfl) (P + 2) 9 i9 (.string ⟨#[]⟩) 1 16 Yba.underlying33 hi9 hz90 hz91 hz92 rfl (by omega) _ k (nameCells S k) (by rfl) (HH.out.o1.alloc _) ⟨w.heap.size, 0, none⟩ 1 1 [.string (S k)] (by rfl) (by rfl) (World.news_of_block (cell_of_alloc w _)) (one_string _) (by omega) (by unfold maxLen; omega) (by omega) (by simp; omega) _ rfl ?_; intro g cap w1 hown hgrow hat hlt1; obtain ⟨k1, k2, k3, k4⟩ := HH.out.between hgrow; have HF : Hid _ := HH.out.first hown hgrow; have hsz1 := hgrow.size; simp only [World.size_alloc] at hsz1; clear hat hown hgrow)
    | (at_builtin; refine wpList_append_lies _ (by rfl) (.tmp 11) (.tmp 13) 34 (by rfl) (P + 2) 42 i42 (.int .u64 0) 1 8 Yba.underlying34 hi42 hz420 hz421 hz422 rfl (by omega) _ k (countCells C k) (by rfl) (HF.out.2.2.2.2.alloc _) ⟨w1.heap.size, 0, none⟩ 1 1 [.int .u64 (C k)] (by rfl) (by rfl) (World.news_of_block (set_alloc _ _ _ _)) (ints_oneCell .u64 [_]) (by omega) (by unfold maxLen; omega) (by omega) (by simp; omega) _ rfl ?_; intro g2 cap2 w2 hown2 hgrow2 hat2 hlt2; obtain ⟨m1, m2⟩ := between2 HF.out hgrow2; have HG : Hid (Gath w0 (w2.setCell ⟨P + 1, 0, none⟩ (.slice (some ⟨g2, 0, none⟩) (k + 1) cap2)) P (k + 1) S C _ _) := Gath.second HF.out.1 HF.out.2.1 HF.out.2.2.1 HF.out.2.2.2.1 HF.out.2.2.2.2 hown2 hgrow2; clear hat2 hown2 hgrow2))
  go_ret
  exact ⟨rfl, _, _, HG.out⟩

set_option maxHeartbeats 1000000 in
theorem gath13 (w0 w : World) (P k : Nat) (S : Nat → ByteArray) (C : Nat → Int) (v1 v2 : Value) (h : Gath w0 w P k S C v1 v2) (hk : k ≤ 4096) :
    Calls Yba.prog 13 #[.string (S k), .int .u64 (C k), .pointer (some ⟨P, 0, none⟩), .pointer (some ⟨P + 1, 0, none⟩)] w fun e w' => e = .returned (.bool true) ∧ ∃ v1 v2, Gath w0 w' P (k + 1) S C v1 v2 := by
  obtain ⟨i9, hi9, hz90, hz91, hz92⟩ := info_parts info9
  obtain ⟨i42, hi42, hz420, hz421, hz422⟩ := info_parts info42
  have hlt := h.lt
  obtain ⟨aa1, cc1, hv1⟩ := isSlice_of_own h.o1
  obtain ⟨aa2, cc2, hv2⟩ := isSlice_of_own h.o2
  have e1 : w.cell? ⟨P, 0, none⟩ = some v1 := by rw [cell_of_row _ _ _ _ _ _ h.b1]; rfl
  subst hv1
  subst hv2
  have HH : Hid (Gath w0 w P k S C (.slice aa1 k cc1) (.slice aa2 k cc2)) := h
  have hbase : P + 2 ≤ w.heap.size := by omega
  clear h
  go_enter Yba.func13, Yba.ntmps13
  go_wp2_with (first
    | (at_builtin; refine wpList_append_lies _ (by rfl) (.tmp 7) (.tmp 9) 33 (by rfl) (P + 2) 9 i9 (.string ⟨#[]⟩) 1 16 Yba.underlying33 hi9 hz90 hz91 hz92 rfl (by omega) _ k (nameCells S k) (by rfl) (HH.out.o1.alloc _) ⟨w.heap.size, 0, none⟩ 1 1 [.string (S k)] (by rfl) (by rfl) (World.news_of_block (cell_of_alloc w _)) (one_string _) (by omega) (by unfold maxLen; omega) (by omega) (by simp; omega) _ rfl ?_; intro g cap w1 hown hgrow hat hlt1; obtain ⟨k1, k2, k3, k4⟩ := HH.out.between hgrow; have HF : Hid _ := HH.out.first hown hgrow; have hsz1 := hgrow.size; simp only [World.size_alloc] at hsz1; clear hat hown hgrow)
    | (at_builtin; refine wpList_append_lies _ (by rfl) (.tmp 11) (.tmp 13) 34 (by rfl) (P + 2) 42 i42 (.int .u64 0) 1 8 Yba.underlying34 hi42 hz420 hz421 hz422 rfl (by omega) _ k (countCells C k) (by rfl) (HF.out.2.2.2.2.alloc _) ⟨w1.heap.size, 0, none⟩ 1 1 [.int .u64 (C k)] (by rfl) (by rfl) (World.news_of_block (set_alloc _ _ _ _)) (ints_oneCell .u64 [_]) (by omega) (by unfold maxLen; omega) (by omega) (by simp; omega) _ rfl ?_; intro g2 cap2 w2 hown2 hgrow2 hat2 hlt2; obtain ⟨m1, m2⟩ := between2 HF.out hgrow2; have HG : Hid (Gath w0 (w2.setCell ⟨P + 1, 0, none⟩ (.slice (some ⟨g2, 0, none⟩) (k + 1) cap2)) P (k + 1) S C _ _) := Gath.second HF.out.1 HF.out.2.1 HF.out.2.2.1 HF.out.2.2.2.1 HF.out.2.2.2.2 hown2 hgrow2; clear hat2 hown2 hgrow2))
  go_ret
  exact ⟨rfl, _, _, HG.out⟩

end Go.Proofs.Ybulkcosq.Clock

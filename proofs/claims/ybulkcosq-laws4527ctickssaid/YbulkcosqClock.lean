/- OUR OWN TEXT. zzs4527cbuild (8), (VectorClock).All (9), (VectorClock).All$1 (14): contracts. -/
import Derived.Test.YbulkcosqBase
import Derived.Deep.RegionHeld3
namespace Go.Proofs.Ybulkcosq.Clock
open Go.RowKit Go.Proofs.Ybulkcosq.Own

theorem info45 : (Yba.prog.info? 45).map (fun i => (i.zero, i.size, i.bytes)) = some (some (.agg #[.string ⟨#[]⟩, .int .u64 0]), 2, 24) := by kernel_rfl
theorem size9 (w : World) : (sizeOf 9).run Yba.prog w = .ok 1 w := by kernel_rfl
theorem size42 (w : World) : (sizeOf 42).run Yba.prog w = .ok 1 w := by kernel_rfl
theorem size45 (w : World) : (sizeOf 45).run Yba.prog w = .ok 2 w := by kernel_rfl

/-- A []string, a []uint64 that came in, a []vectorEntry: cells by the index. -/
structure Names (w : World) (a : Option Addr) (n : Nat) (S : Nat → ByteArray) : Prop where
  addr : 0 < n → a.isSome = true
  cell : ∀ i, i < n → w.cell? (cellOf a i) = some (.string (S i))
structure Counts (w : World) (a : Option Addr) (n : Nat) (C : Nat → Int) : Prop where
  addr : 0 < n → a.isSome = true
  cell : ∀ i, i < n → w.cell? (cellOf a i) = some (.int .u64 (C i))
structure Ents (w : World) (a : Option Addr) (n : Nat) (S : Nat → ByteArray) (C : Nat → Int) : Prop where
  addr : 0 < n → a.isSome = true
  c0 : ∀ i, i < n → w.cell? (cellOf a (i * 2)) = some (.string (S i))
  c1 : ∀ i, i < n → w.cell? (cellOf a (i * 2 + 1)) = some (.int .u64 (C i))

theorem Names.idx {w : World} {a : Option Addr} {n : Nat} {S : Nat → ByteArray} (h : Names w a n S) (cap i : Nat) (hi : i < n) (w' : World) : (Instr.indexAt 33 (.slice a n cap) (.int .i64 i)).run Yba.prog w' = .ok (.pointer (some (cellOf a i))) w' := by
  have := run_index_in (P := Yba.prog) (cap := cap) (k := .i64) Yba.underlying33 size9 (h.addr (by omega)) hi w'
  simpa using this
theorem Counts.idx {w : World} {a : Option Addr} {n : Nat} {C : Nat → Int} (h : Counts w a n C) (cap i : Nat) (hi : i < n) (w' : World) : (Instr.indexAt 34 (.slice a n cap) (.int .i64 i)).run Yba.prog w' = .ok (.pointer (some (cellOf a i))) w' := by
  have := run_index_in (P := Yba.prog) (cap := cap) (k := .i64) Yba.underlying34 size42 (h.addr (by omega)) hi w'
  simpa using this
theorem Ents.idx {w : World} {a : Option Addr} {n : Nat} {S : Nat → ByteArray} {C : Nat → Int} (h : Ents w a n S C) (cap i : Nat) (hi : i < n) (w' : World) : (Instr.indexAt 35 (.slice a n cap) (.int .i64 i)).run Yba.prog w' = .ok (.pointer (some (cellOf a (i * 2)))) w' :=
  run_index_in Yba.underlying35 size45 (h.addr (by omega)) hi w'

theorem Names.below {w w' : World} {a : Option Addr} {n : Nat} {S : Nat → ByteArray} (h : Names w a n S) (hb : Below w.heap.size w w') : Names w' a n S :=
  ⟨h.addr, fun i hi => (hb.cell (lt_of_cell (h.cell i hi))).trans (h.cell i hi)⟩
theorem Counts.below {w w' : World} {a : Option Addr} {n : Nat} {C : Nat → Int} (h : Counts w a n C) (hb : Below w.heap.size w w') : Counts w' a n C :=
  ⟨h.addr, fun i hi => (hb.cell (lt_of_cell (h.cell i hi))).trans (h.cell i hi)⟩
theorem Ents.below {w w' : World} {a : Option Addr} {n : Nat} {S : Nat → ByteArray} {C : Nat → Int} (h : Ents w a n S C) (hb : Below w.heap.size w w') : Ents w' a n S C :=
  ⟨h.addr, fun i hi => (hb.cell (lt_of_cell (h.c0 i hi))).trans (h.c0 i hi), fun i hi => (hb.cell (lt_of_cell (h.c1 i hi))).trans (h.c1 i hi)⟩

/-- The cells of k entries. -/
def entCells (S : Nat → ByteArray) (C : Nat → Int) : Nat → List Value
  | 0 => []
  | k + 1 => entCells S C k ++ [.string (S k), .int .u64 (C k)]

theorem entCells_len (S : Nat → ByteArray) (C : Nat → Int) (k : Nat) : (entCells S C k).length = k * 2 := by
  induction k with
  | zero => rfl
  | succ k ih => simp [entCells, ih]; omega

theorem entCells_get (S : Nat → ByteArray) (C : Nat → Int) (k i : Nat) (h : i < k) : (entCells S C k)[i * 2]? = some (.string (S i)) ∧ (entCells S C k)[i * 2 + 1]? = some (.int .u64 (C i)) := by
  induction k with
  | zero => omega
  | succ k ih =>
    have hl := entCells_len S C k
    rw [entCells]
    by_cases hik : i < k
    · rw [List.getElem?_append_left (by omega), List.getElem?_append_left (by omega)]; exact ih hik
    · have : i = k := by omega
      subst this
      rw [List.getElem?_append_right (by omega), List.getElem?_append_right (by omega), hl]
      simp

/-- What a value that owns the entries looks like. -/
theorem ents_of_own {w : World} {base n : Nat} {v : Value} {S : Nat → ByteArray} {C : Nat → Int} (h : w.ownsRow base 45 2 v n (entCells S C n)) : ∃ ao cap, v = .slice ao n cap ∧ n ≤ cap ∧ Ents w ao n S C := by
  rcases h.2 with ⟨rfl, rfl⟩ | ⟨g, cap, cur, rfl, _, hg, hc, _, _, htk⟩
  · exact ⟨none, 0, rfl, Nat.le_refl _, ⟨by simp, by simp, by simp⟩⟩
  · refine ⟨some ⟨g, 0, none⟩, cap, rfl, hc, ⟨fun _ => rfl, fun i hi => ?_, fun i hi => ?_⟩⟩
    · have := (entCells_get S C n i hi).1
      rw [← htk, List.getElem?_take, if_pos (by omega)] at this
      exact World.news_of_block hg _ _ this
    · have := (entCells_get S C n i hi).2
      rw [← htk, List.getElem?_take, if_pos (by omega)] at this
      exact World.news_of_block hg _ _ this

/-- n IS THE LESSER OF n1, n2, as the walk meets it. -/
structure Least (n n1 n2 : Nat) : Prop where
  le1 : n ≤ n1
  le2 : n ≤ n2
  lit : (if (n2 : Int) < (n1 : Int) then (n2 : Int) else (n1 : Int)) = (n : Int)
  nat : (if n2 < n1 then (n2 : Int) else (n1 : Int)) = (n : Int)

theorem least_min (n1 n2 : Nat) : Least (min n1 n2) n1 n2 := by
  refine ⟨Nat.min_le_left _ _, Nat.min_le_right _ _, ?_, ?_⟩
  · split <;> omega
  · split <;> omega

theorem Names.less {w : World} {a : Option Addr} {n m : Nat} {S : Nat → ByteArray} (h : Names w a n S) (hm : m ≤ n) : ∀ i, i < m → w.cell? (cellOf a i) = some (.string (S i)) := fun i hi => h.cell i (by omega)

theorem ent_one (s : ByteArray) (x : Int) : ∀ u ∈ [Value.string s, Value.int .u64 x], u.oneCell' = true := by
  intro u hu
  simp only [List.mem_cons, List.not_mem_nil, or_false] at hu
  rcases hu with rfl | rfl <;> rfl

theorem keep_cell {wr w1 : World} {o : Obj} {v : Value} {a : Addr} {u : Value} (hg : ((wr.alloc o).drew).grownBy w1 v.ownBlock) (h : wr.cell? a = some u) (hne : some a.block ≠ v.ownBlock) : w1.cell? a = some u := by
  have hl := lt_of_cell h
  rw [hg.cell_far a (by show _ < (wr.alloc o).heap.size; simp; omega) hne]
  show (wr.alloc o).cell? a = _
  rw [World.cell?_alloc_lt _ _ _ hl]; exact h

theorem far_of_own {wr : World} {N : Nat} {e : TypeId} {size : Nat} {v : Value} {n : Nat} {xs : List Value} (h : wr.ownsRow (N + 1) e size v n xs) (a : Addr) (ha : a.block < N) : some a.block ≠ v.ownBlock := by
  rcases h.2 with ⟨rfl, _⟩ | ⟨g, cap, cur, rfl, hge, _⟩
  · simp [Value.ownBlock]
  · simp [Value.ownBlock]; omega

theorem own_ge {wr : World} {N : Nat} {e : TypeId} {size : Nat} {v : Value} {n : Nat} {xs : List Value} (h : wr.ownsRow (N + 1) e size v n xs) {b : Nat} (hb : v.ownBlock = some b) : N ≤ b := by
  rcases h.2 with ⟨rfl, _⟩ | ⟨g, cap, cur, rfl, hge, _⟩
  · simp [Value.ownBlock] at hb
  · simp [Value.ownBlock] at hb; omega

theorem own_ne {wr : World} {N : Nat} {e : TypeId} {size : Nat} {v : Value} {n : Nat} {xs : List Value} (h : wr.ownsRow (N + 1) e size v n xs) : some N ≠ v.ownBlock := by
  rcases h.2 with ⟨rfl, _⟩ | ⟨g, cap, cur, rfl, hge, _⟩
  · simp [Value.ownBlock]
  · simp [Value.ownBlock]; omega

set_option maxHeartbeats 1000000 in
theorem build_any (a1 a2 : Option Addr) (n n1 c1 n2 c2 : Nat) (S : Nat → ByteArray) (C : Nat → Int) (w : World) (hn : Least n n1 n2) (h1 : Names w a1 n1 S) (h2 : Counts w a2 n2 C) (hn1 : n1 ≤ 1024) (_hn2 : n2 ≤ 1024) :
    Calls Yba.prog 8 #[.slice a1 n1 c1, .slice a2 n2 c2] w fun e w' => ∃ ao cap, e = .returned (.agg #[.slice ao n cap]) ∧ Ents w' ao n S C ∧ Below w.heap.size w w' := by
  obtain ⟨i0, hi, hz0, hz1, hz2⟩ := info_parts info45
  have hm1 := hn.lit
  have hm2 := hn.nat
  have hl1 := hn.le1
  have hl2 := hn.le2
  go_enter Yba.func8, Yba.ntmps8
  go_wp2_with (first
    | (at_make; refine wpList_make_own _ rfl _ _ 35 rfl (w.heap.size + 1) 45 i0 _ 2 Yba.underlying35 hi hz0 hz1 .i64 .i64 _ n rfl rfl (by omega) (by rw [hz2]; omega) (by unfold maxLen; omega) (by simp) ?_; intro w1 hown1 hgrow1))
  have hb1 : Below w.heap.size w w1 := ((Below.refl _ w).alloc (Nat.le_refl _) _).grown hgrow1 (by simp) (by simp)
  have hc1 : w1.heap[w.heap.size]? = some (.cells #[.slice none 0 0] 37 (0, 0)) := by
    rw [hgrow1.block _ (by simp) (by simp)]; exact cell_of_alloc w _
  clear hm1 hm2 hgrow1
  go_loopw [6, 7] (fun v i wr => ∃ k : Nat, k ≤ n ∧ i = .int .i64 k ∧ wr.ownsRow (w.heap.size + 1) 45 2 v k (entCells S C k) ∧ (∃ ao c, v = .slice ao k c) ∧ wr.heap[w.heap.size]? = some (.cells #[.slice none 0 0] 37 (0, 0)) ∧ Below w.heap.size w wr) (fun _ i _ => n - (intOf i).toNat)
  case atStart => exact ⟨0, Nat.zero_le _, rfl, by simpa [entCells] using hown1, ⟨_, _, rfl⟩, hc1, hb1⟩
  case round =>
    clear hown1 hc1 hb1
    obtain ⟨k, hk, rfl, hown, ⟨ao, c, rfl⟩, hc, hbel⟩ := hrel
    have hsz := hbel.size
    have hlt0 := (Array.getElem?_eq_some_iff.1 hc).1
    by_cases hlt : k < n
    · have hik := h1.idx c1 k (by omega)
      have hjk := h2.idx c2 k (by omega)
      have hs := (h1.below hbel).cell k (by omega)
      have hcn := (h2.below hbel).cell k (by omega)
      have hA1 := lt_of_cell (h1.cell k (by omega))
      have hA2 := lt_of_cell (h2.cell k (by omega))
      have hfar := far_of_own hown
      have HE : Hid (entCells S C (k + 1) = entCells S C k ++ [.string (S k), .int .u64 (C k)]) := rfl
      generalize S k = s at *
      generalize C k = x at *
      go_wp2
      go_region_held3 (fun w' => w'.cell? (cellOf a1 k) = some (.string s) ∧ w'.cell? (cellOf a2 k) = some (.int .u64 x)) (first | exact ⟨keep_cell hgrow hs (hfar _ hA1), keep_cell hgrow hcn (hfar _ hA2)⟩ | go_keep)
        ((refine step_append_lies _ (by rfl) _ _ 35 (by rfl) (w.heap.size + 1) 45 i0 (.agg #[.string ⟨#[]⟩, .int .u64 0]) 2 24 Yba.underlying35 hi hz0 hz1 hz2 (by rfl) (by omega) (.slice ao k c) k (entCells S C k) (by rfl) ((hown.alloc _).drew) ⟨wr.heap.size, 0, none⟩ 1 1 [.string s, .int .u64 x] (by rfl) (by rfl) (World.news_of_block (show ((wr.alloc _).drew).heap[wr.heap.size]? = _ from cell_of_alloc wr _)) (ent_one s x) (by omega) (by unfold maxLen; omega) (by omega) (by simp; omega) _ rfl ?_; intro g cap w1 hown1 hgrow hat hlt1))
      have R : w1.ownsRow (w.heap.size + 1) 45 2 (.slice (some ⟨g, 0, none⟩) (k + 1) cap) (k + 1) (entCells S C (k + 1)) := by rw [HE.out]; exact hown1
      have T : w1.heap[w.heap.size]? = some (.cells #[.slice none 0 0] 37 (0, 0)) := by
        rw [hgrow.block _ (by show _ < (wr.alloc _).heap.size; simp; omega) (own_ne hown)]
        show (wr.alloc _).heap[w.heap.size]? = _
        rw [Below.heap_alloc _ _ _ hlt0]; exact hc
      have U : Below w.heap.size w w1 := ((hbel.alloc hsz _).drew).grown hgrow (by show _ ≤ (wr.alloc _).heap.size; simp; omega) (fun b hb => own_ge hown hb)
      clear hown1 hgrow hown hc hbel hat
      go_wp2
      go_roundw
      case rel => exact ⟨k + 1, by omega, by go_num, R, ⟨_, _, rfl⟩, T, U⟩
      case measure => simp [intOf]; omega
    · have hkn : n = k := by omega
      subst hkn
      have hcc : wr.cell? ⟨w.heap.size, 0, none⟩ = some (.slice none 0 0) := by rw [cell_of_row _ _ _ _ _ _ hc]; rfl
      have hff : wr.frozen? ⟨w.heap.size, 0, none⟩ = false := by simp [World.frozen?, hc]
      have hown2 := ownsRow_setCell_below hown (a := ⟨w.heap.size, 0, none⟩) (by simp) (.slice ao n c)
      obtain ⟨ao', c', hv, _, hE⟩ := ents_of_own hown2
      simp only [Value.slice.injEq, true_and] at hv
      obtain ⟨rfl, rfl⟩ := hv
      have hB := hbel.setCell (p := ⟨w.heap.size, 0, none⟩) (Nat.le_refl _) (.slice ao n c)
      clear hown hown2
      go_wp2
      exact bodyPost_ret (v := .agg #[.slice ao n c]) (by simp [results, Yba.results8, go_sem, hcc]) rfl ⟨ao, c, rfl, hE, hB⟩

/-! ### All -/
theorem enter10 (args : Array Value) (w : World) : (callFunc 10 args).run Yba.prog w = .ok (.enter 10 args) w := by kernel_rfl
theorem enter11 (args : Array Value) (w : World) : (callFunc 11 args).run Yba.prog w = .ok (.enter 11 args) w := by kernel_rfl
theorem enter13 (args : Array Value) (w : World) : (callFunc 13 args).run Yba.prog w = .ok (.enter 13 args) w := by kernel_rfl

theorem all_any (v : Value) (w : World) (hv : ∃ ao n c, v = .slice ao n c) :
    Calls Yba.prog 9 #[.agg #[v]] w fun e w' => e = .returned (.func (.func 14) #[] #[.pointer (some ⟨w.heap.size, 0, none⟩)]) ∧ w' = w.alloc (.cells #[v] 37) := by
  obtain ⟨ao, n, c, rfl⟩ := hv
  go_enter Yba.func9, Yba.ntmps9
  go_wp2
  go_ret
  exact ⟨rfl, rfl⟩

/-! ### All's closure: 'for _, e := range v.entries { if !yield(e.name, e.count) { return } }' -/
set_option maxHeartbeats 1000000 in
theorem each_any (f : Nat) (cap : Array Value) (b n c : Nat) (ao : Option Addr) (S : Nat → ByteArray) (C : Nat → Int) (I : Nat → World → Prop) (D : World → Prop) (w : World) (hn : n ≤ 4096) (hent : ∀ args w, (callFunc f args).run Yba.prog w = .ok (.enter f args) w)
    (hb : w.cell? ⟨b, 0, none⟩ = some (.slice ao n c)) (hE : ∀ k wr, I k wr → Ents wr ao n S C) (h0 : I 0 w)
    (hstep : ∀ k wr, k < n → I k wr → Calls Yba.prog f (#[.string (S k), .int .u64 (C k)] ++ cap) (wr.alloc (.cells #[.string (S k), .int .u64 (C k)] 45)) fun e w' => (e = .returned (.bool true) ∧ I (k + 1) w') ∨ (e = .returned (.bool false) ∧ D w')) :
    Calls Yba.prog 14 #[.func (.func f) #[] cap, .pointer (some ⟨b, 0, none⟩)] w fun e w' => e = .returned (.tuple #[]) ∧ (I n w' ∨ D w') := by
  have HS : Hid (∀ k wr, k < n → I k wr → Calls Yba.prog f (#[.string (S k), .int .u64 (C k)] ++ cap) (wr.alloc (.cells #[.string (S k), .int .u64 (C k)] 45)) fun e w' => (e = .returned (.bool true) ∧ I (k + 1) w') ∨ (e = .returned (.bool false) ∧ D w')) := hstep
  have HE : Hid (∀ k wr, I k wr → Ents wr ao n S C) := hE
  clear hstep hE
  go_enter Yba.func14, Yba.ntmps14
  go_wp2_with fail
  go_loopw [8] (fun i wr => ∃ k : Nat, k ≤ n ∧ i = .int .i64 k ∧ I k wr) (fun i _ => n - (intOf i).toNat)
  case atStart => exact ⟨0, Nat.zero_le _, rfl, h0⟩
  case round =>
    obtain ⟨k, hk, rfl, hI⟩ := hrel
    have hen := HE.out k wr hI
    by_cases hlt : k < n
    · have hik := hen.idx c k hlt
      have hs := hen.c0 k hlt
      have hx := hen.c1 k hlt
      have hca := cellOf_add ao (k * 2) 1
      have HC : Hid (Calls Yba.prog f (#[.string (S k), .int .u64 (C k)] ++ cap) (wr.alloc (.cells #[.string (S k), .int .u64 (C k)] 45)) fun e w' => (e = .returned (.bool true) ∧ I (k + 1) w') ∨ (e = .returned (.bool false) ∧ D w')) := HS.out k wr hlt hI
      generalize S k = s at *
      generalize C k = x at *
      go_wp2_with fail
      refine Calls.mono HC.out ?_
      rintro e w' (⟨rfl, hI'⟩ | ⟨rfl, hD⟩)
      · go_wp2
        go_roundw
        case rel => exact ⟨k + 1, by omega, by go_num, hI'⟩
        case measure => simp [intOf]; omega
      · go_wp2
        exact bodyPost_ret (v := .tuple #[]) (by simp [results, Yba.results14, go_sem]) rfl ⟨rfl, Or.inr hD⟩
    · have hkn : n = k := by omega
      subst hkn
      go_wp2
      go_end0
      exact ⟨rfl, Or.inl hI⟩
end Go.Proofs.Ybulkcosq.Clock

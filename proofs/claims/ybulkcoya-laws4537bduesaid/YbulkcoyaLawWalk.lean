/- OUR OWN TEXT. LawS4537BDue (3): the walk. -/
import Derived.Test.YbulkcoyaDue
import Derived.Laws.OwnMore
namespace Go.Proofs.Ybulkcoya.Due
open Go.RowKit
open Go.ChangeMaps (setBlock)

/-- WHERE THE i-th CELL OF A SLICE LIES (of a nil slice: nowhere that is asked for). -/
def cellOf (a : Option Addr) (i : Nat) : Addr := (a.getD ⟨0, 0, none⟩).add i
theorem add_add (a : Addr) (i j : Nat) : (a.add i).add j = a.add (i + j) := by
  unfold Addr.add
  by_cases hi : i = 0 <;> by_cases hj : j = 0 <;> simp [hi, hj, Nat.add_assoc]
theorem cellOf_add (a : Option Addr) (i j : Nat) : (cellOf a i).add j = cellOf a (i + j) := add_add _ _ _

/-- The clients that came in. -/
structure Ins (w : World) (a : Option Addr) (n : Nat) (X Y F M : Nat → Nat) : Prop where
  addr : 0 < n → a.isSome = true
  c0 : ∀ i, i < n → w.cell? (cellOf a (i * 4)) = some (.int .u32 (X i : Int))
  c1 : ∀ i, i < n → w.cell? (cellOf a (i * 4 + 1)) = some (.int .u32 (Y i : Int))
  c2 : ∀ i, i < n → w.cell? (cellOf a (i * 4 + 2)) = some (.int .u8 (F i : Int))
  c3 : ∀ i, i < n → w.cell? (cellOf a (i * 4 + 3)) = some (.int .u8 (M i : Int))
  bd : ∀ i, i < n → X i < 4294967296 ∧ Y i < 4294967296 ∧ F i < 256 ∧ M i < 256

theorem Ins.idx {w : World} {a : Option Addr} {n : Nat} {X Y F M : Nat → Nat} (h : Ins w a n X Y F M) (cap i : Nat) (hi : i < n) (w' : World) : (Instr.indexAt 22 (.slice a n cap) (.int .i64 i)).run Yba.prog w' = .ok (.pointer (some (cellOf a (i * 4)))) w' := by
  obtain ⟨x, rfl⟩ := Option.isSome_iff_exists.1 (h.addr (by omega))
  simp [Instr.indexAt, run_underlying Yba.underlying22, asIntOf, cellOf, hi]
theorem Ins.below {w w' : World} {a : Option Addr} {n : Nat} {X Y F M : Nat → Nat} (h : Ins w a n X Y F M) (hb : Below w.heap.size w w') : Ins w' a n X Y F M :=
  ⟨h.addr, fun i hi => (hb.cell (lt_of_cell (h.c0 i hi))).trans (h.c0 i hi), fun i hi => (hb.cell (lt_of_cell (h.c1 i hi))).trans (h.c1 i hi), fun i hi => (hb.cell (lt_of_cell (h.c2 i hi))).trans (h.c2 i hi), fun i hi => (hb.cell (lt_of_cell (h.c3 i hi))).trans (h.c3 i hi), h.bd⟩

theorem row_get (a b c : Value) (r : List Value) : ∀ m j, j < m → ((List.replicate m [a, b, c]).flatten ++ r)[j * 3]? = some a ∧ ((List.replicate m [a, b, c]).flatten ++ r)[j * 3 + 1]? = some b ∧ ((List.replicate m [a, b, c]).flatten ++ r)[j * 3 + 2]? = some c
  | m + 1, 0, _ => by simp [List.replicate_succ]
  | m + 1, j + 1, h => by
    have ih := row_get a b c r m j (by omega)
    rw [List.replicate_succ, List.flatten_cons, List.append_assoc, show (j + 1) * 3 = j * 3 + 3 by omega]
    simpa using ih

def Z36 : Array Value := ((List.replicate 64 [Value.int .u64 0, Value.int .i64 0, Value.pointer none]).flatten ++ [Value.int .i64 0, Value.int .i64 0, Value.slice none 0 0, Value.bool false]).toArray
theorem zero36 (w : World) : (zeroValue 36).run Yba.prog w = .ok (.agg Z36) w := by kernel_rfl

/-- What a client's block holds while the round fills it: the ring's cells are there. -/
structure Ring (cs : Array Value) : Prop where
  r : ∀ j, j < 64 → (∃ v, cs[j * 3]? = some v) ∧ (∃ v, cs[j * 3 + 1]? = some v) ∧ (∃ v, cs[j * 3 + 2]? = some v)
  a : ∃ v, cs[192]? = some v
  b : ∃ v, cs[193]? = some v
  c : ∃ v, cs[194]? = some v
theorem ring0 : Ring Z36 := by
  refine ⟨fun j hj => ?_, ⟨.int .i64 0, by kernel_rfl⟩, ⟨.int .i64 0, by kernel_rfl⟩, ⟨.slice none 0 0, by kernel_rfl⟩⟩
  have := row_get (.int .u64 0) (.int .i64 0) (.pointer none) [.int .i64 0, .int .i64 0, .slice none 0 0, .bool false] 64 j hj
  simp only [Z36, List.getElem?_toArray]
  exact ⟨⟨_, this.1⟩, ⟨_, this.2.1⟩, ⟨_, this.2.2⟩⟩
theorem set_some {cs : Array Value} {i j : Nat} {u v : Value} (h : cs[i]? = some v) : ∃ v', (cs.setIfInBounds j u)[i]? = some v' := by
  have hl := (Array.getElem?_eq_some_iff.1 h).1
  exact ⟨_, Array.getElem?_eq_getElem (by simpa using hl)⟩
theorem set_same {cs : Array Value} {i : Nat} {u v : Value} (h : cs[i]? = some v) : (cs.setIfInBounds i u)[i]? = some u := by
  have hl := (Array.getElem?_eq_some_iff.1 h).1
  simp [hl]
theorem set_other {cs : Array Value} {i j : Nat} {u v : Value} (h : cs[i]? = some v) (hne : j ≠ i) : (cs.setIfInBounds j u)[i]? = some v := by
  rw [Array.getElem?_setIfInBounds_ne hne]; exact h
theorem Ring.set {cs : Array Value} (h : Ring cs) (j : Nat) (u : Value) : Ring (cs.setIfInBounds j u) := by
  refine ⟨fun i hi => ?_, ?_, ?_, ?_⟩
  · obtain ⟨⟨_, h1⟩, ⟨_, h2⟩, ⟨_, h3⟩⟩ := h.r i hi
    exact ⟨set_some h1, set_some h2, set_some h3⟩
  · obtain ⟨_, h1⟩ := h.a; exact set_some h1
  · obtain ⟨_, h1⟩ := h.b; exact set_some h1
  · obtain ⟨_, h1⟩ := h.c; exact set_some h1

/-- The least so far, -1 ahead of the first. -/
def Best (O : Nat → Nat) (k : Nat) (b : Int) : Prop := (k = 0 ∧ b = -1) ∨ ∃ m : Nat, b = (m : Int) ∧ (∃ i, i < k ∧ O i = m) ∧ ∀ i, i < k → m ≤ O i

/-- WHERE THE LAW STANDS after k rounds: the two maps in N, N + 1, the pacer in N + 2. -/
structure At (w wr : World) (N k : Nat) (Q X Y : Nat → Nat) : Prop where
  bel : Below N w wr
  m1 : wr.heap[N]? = some (.map (ents Q k) k)
  m2 : wr.heap[N + 1]? = some (.map (ents Q k) k)
  p : wr.heap[N + 1 + 1]? = some (.cells #[.nilFunc, .map (some N), .map (some (N + 1)), .int .i64 0, .int .u64 0, .int .i64 0, .pointer none] 56 (0, 0))
  cl : ∀ i, i < k → Client wr (Q i) (X i) (Y i)
  q : ∀ i, i < k → N + 1 + 1 < Q i

theorem add0 (y : Nat) (hy : y < 4294967296) (w : World) : Calls Yba.prog 5 #[.agg #[.int .u64 0, .int .i64 0, .pointer none], .int .i64 (y : Int)] w fun e w' => e = .returned (.agg #[.int .u64 (nano y : Int), .int .i64 (secs y : Int), .pointer none]) ∧ Below w.heap.size w w' := by
  have h := add5 0 y w (by omega) (by omega)
  rw [show nano 0 = 0 from rfl, show secs 0 = 0 from rfl, Nat.zero_add] at h
  refine h.mono ?_
  rintro e w' ⟨rfl, rfl⟩
  exact ⟨rfl, ((Below.refl _ w).alloc (Nat.le_refl _) _).alloc (by simp) _⟩

theorem info41 : (Yba.prog.info? 41).map (fun i => (i.zero, i.size, i.bytes)) = some (some (.agg #[.slice none 0 0, .bool false, .int .u64 0, .int .i64 0, .pointer none]), 5, 56) := by kernel_rfl
theorem row_of_own {w : World} {base : Nat} {e : TypeId} {g n : Nat} {xs : List Value} (h : w.ownsRow base e 5 (.slice (some ⟨g, 0, none⟩) n n) n xs) (hn : 0 < n) : ∃ hs, w.heap[g]? = some (.cells hs e (0, 0)) ∧ 5 ≤ hs.size := by
  rcases h.2 with ⟨h', _⟩ | ⟨g', cap', cur, h', _, hg, hc, _, hs, _⟩
  · simp at h'
  · simp only [Value.slice.injEq, Option.some.injEq, Addr.mk.injEq, and_true, true_and] at h'
    obtain ⟨rfl, rfl⟩ := h'
    exact ⟨cur, hg, by omega⟩

/-- While the round fills the client's block. -/
structure Fill (wr wc : World) (x y f mo f' : Nat) (cs : Array Value) : Prop where
  bel : Below wr.heap.size wr wc
  d : wc.heap[wr.heap.size]? = some (.cells #[.int .u32 (x : Int), .int .u32 (y : Int), .int .u8 (f : Int), .int .u8 (mo : Int)] 27 (0, 0))
  q : wc.heap[wr.heap.size + 1]? = some (.cells cs 36 (0, 0))
  ring : Ring cs
  first : cs[192]? = some (.int .i64 (f' : Int))

theorem Fill.below {wr wc wd : World} {x y f mo f' : Nat} {cs : Array Value} (h : Fill wr wc x y f mo f' cs) (hb : Below wc.heap.size wc wd) : Fill wr wd x y f mo f' cs := by
  have hl := (Array.getElem?_eq_some_iff.1 h.q).1
  exact ⟨h.bel.trans (hb.mono h.bel.size), (hb.block _ (by omega)).trans h.d, (hb.block _ hl).trans h.q, h.ring, h.first⟩
theorem Fill.set {wr wc : World} {x y f mo f' : Nat} {cs : Array Value} (h : Fill wr wc x y f mo f' cs) (j : Nat) (hj : j ≠ 192) (u : Value) : Fill wr (wc.setCell ⟨wr.heap.size + 1, j, none⟩ u) x y f mo f' (cs.setIfInBounds j u) :=
  ⟨h.bel.setCell (Nat.le_succ _) _, by rw [Below.heap_setCell _ _ _ _ (by simp)]; exact h.d, heap_setCell_same _ _ j _ _ u h.q, h.ring.set j u, set_other h.first hj⟩
theorem Fill.drew {wr wc : World} {x y f mo f' : Nat} {cs : Array Value} (h : Fill wr wc x y f mo f' cs) : Fill wr wc.drew x y f mo f' cs := ⟨h.bel.drew, h.d, h.q, h.ring, h.first⟩

/-- 'c.sent[c.first] = ..' -/
theorem Fill.sent {wr wc : World} {x y f mo f' : Nat} {cs : Array Value} (h : Fill wr wc x y f mo f' cs) (hf : f' < 64) (p q r : Value) :
    ∃ cs', Fill wr (((wc.setCell ⟨wr.heap.size + 1, f' * 3, none⟩ p).setCell ⟨wr.heap.size + 1, f' * 3 + 1, none⟩ q).setCell ⟨wr.heap.size + 1, f' * 3 + 2, none⟩ r) x y f mo f' cs' ∧ cs'[f' * 3]? = some p ∧ cs'[f' * 3 + 1]? = some q ∧ cs'[f' * 3 + 2]? = some r := by
  obtain ⟨⟨_, h1⟩, ⟨_, h2⟩, ⟨_, h3⟩⟩ := h.ring.r f' hf
  refine ⟨_, ((h.set (f' * 3) (by omega) p).set (f' * 3 + 1) (by omega) q).set (f' * 3 + 2) (by omega) r, ?_, ?_, ?_⟩
  · exact set_other (set_other (set_same h1) (by omega)) (by omega)
  · exact set_other (set_same (set_other h2 (by omega))) (by omega)
  · exact set_same (set_other (set_other h3 (by omega)) (by omega))

theorem fill_held {wr wc : World} {x y f mo f' nn hb : Nat} {cs hs : Array Value} (h : Fill wr wc x y f mo f' cs) (hf : f' < 64) (hn : 0 < nn) (hhs : 5 ≤ hs.size) (hne : wr.heap.size + 1 < hb) (hh : wc.heap[hb]? = some (.cells hs 41 (0, 0)))
    (hsl : cs[194]? = some (.slice (some ⟨hb, 0, none⟩) nn nn)) (t0 : cs[f' * 3]? = some (.int .u64 (nano y : Int))) (t1 : cs[f' * 3 + 1]? = some (.int .i64 (secs y : Int))) (t2 : cs[f' * 3 + 2]? = some (.pointer none)) :
    (∃ cs, Fill wr (((wc.setCell ⟨hb, 2, none⟩ (.int .u64 (nano x : Int))).setCell ⟨hb, 3, none⟩ (.int .i64 (secs x : Int))).setCell ⟨hb, 4, none⟩ (.pointer none)) x y f mo f' cs) ∧
      Client (((wc.setCell ⟨hb, 2, none⟩ (.int .u64 (nano x : Int))).setCell ⟨hb, 3, none⟩ (.int .i64 (secs x : Int))).setCell ⟨hb, 4, none⟩ (.pointer none)) (wr.heap.size + 1) x y := by
  have hq : (((wc.setCell ⟨hb, 2, none⟩ (.int .u64 (nano x : Int))).setCell ⟨hb, 3, none⟩ (.int .i64 (secs x : Int))).setCell ⟨hb, 4, none⟩ (.pointer none)).heap[wr.heap.size + 1]? = some (.cells cs 36 (0, 0)) := by
    rw [Below.heap_setCell _ _ _ _ (by simp; omega), Below.heap_setCell _ _ _ _ (by simp; omega), Below.heap_setCell _ _ _ _ (by simp; omega)]; exact h.q
  have hd : (((wc.setCell ⟨hb, 2, none⟩ (.int .u64 (nano x : Int))).setCell ⟨hb, 3, none⟩ (.int .i64 (secs x : Int))).setCell ⟨hb, 4, none⟩ (.pointer none)).heap[wr.heap.size]? = some (.cells #[.int .u32 (x : Int), .int .u32 (y : Int), .int .u8 (f : Int), .int .u8 (mo : Int)] 27 (0, 0)) := by
    rw [Below.heap_setCell _ _ _ _ (by simp; omega), Below.heap_setCell _ _ _ _ (by simp; omega), Below.heap_setCell _ _ _ _ (by simp; omega)]; exact h.d
  have hhb := heap_setCell_same _ hb 4 _ 41 (.pointer none) (heap_setCell_same _ hb 3 _ 41 (.int .i64 (secs x : Int)) (heap_setCell_same wc hb 2 _ 41 (.int .u64 (nano x : Int)) hh))
  have g2 : hs[2]? = some hs[2] := Array.getElem?_eq_getElem (by omega)
  have g3 : hs[3]? = some hs[3] := Array.getElem?_eq_getElem (by omega)
  have g4 : hs[4]? = some hs[4] := Array.getElem?_eq_getElem (by omega)
  refine ⟨⟨cs, ((h.bel.setCell (by show _ ≤ hb; omega) _).setCell (by show _ ≤ hb; omega) _).setCell (by show _ ≤ hb; omega) _, hd, hq, h.ring, h.first⟩, ⟨f', nn, nn, hb, hf, hn, ?_, ?_, ?_, ?_, ?_, ?_, ?_, ?_⟩⟩
  · rw [cell_of_row _ _ _ _ _ _ hq]; exact h.first
  · rw [cell_of_row _ _ _ _ _ _ hq]; exact t0
  · rw [cell_of_row _ _ _ _ _ _ hq]; exact t1
  · rw [cell_of_row _ _ _ _ _ _ hq]; exact t2
  · rw [cell_of_row _ _ _ _ _ _ hq]; exact hsl
  · rw [cell_of_row _ _ _ _ _ _ hhb]; exact set_other (set_other (set_same g2) (by omega)) (by omega)
  · rw [cell_of_row _ _ _ _ _ _ hhb]; exact set_other (set_same (set_other g3 (by omega))) (by omega)
  · rw [cell_of_row _ _ _ _ _ _ hhb]; exact set_same (set_other (set_other g4 (by omega)) (by omega))

theorem setb {w w' : World} {b : Nat} {o : Obj} (h : w' = setBlock w.drew b o) (hl : b < w.heap.size) : w'.heap.size = w.heap.size ∧ w'.heap[b]? = some o ∧ ∀ c, c ≠ b → w'.heap[c]? = w.heap[c]? := by
  subst h
  refine ⟨by show (w.heap.setIfInBounds b o).size = _; simp, ?_, fun c hc => ?_⟩
  · show (w.heap.setIfInBounds b o)[b]? = _
    rw [Array.getElem?_setIfInBounds_self_of_lt hl]
  · show (w.heap.setIfInBounds b o)[c]? = _
    rw [Array.getElem?_setIfInBounds_ne (fun e => hc e.symm)]

theorem ents_step (Q : Nat → Nat) (k b : Nat) : ents (fun i => if i = k then b else Q i) (k + 1) = (ents Q k).push ⟨kv k, .pointer (some ⟨b, 0, none⟩), k⟩ := by
  apply Array.toList_inj.1
  simp only [ents, List.range_succ, List.map_append, List.map_cons, List.map_nil, if_true, Array.toList_push]
  congr 1
  refine List.map_congr_left fun i hi => ?_
  rw [List.mem_range] at hi
  rw [if_neg (by omega)]

theorem cell_congr {w w' : World} {a : Addr} (h : w'.heap[a.block]? = w.heap[a.block]?) : w'.cell? a = w.cell? a := by unfold World.cell?; rw [h]
theorem not_map {w : World} {a : Addr} {es : Array MapEntry} {c : Nat} (h : w.heap[a.block]? = some (.map es c)) : w.cell? a = none := by unfold World.cell?; rw [h]

theorem best_step {O : Nat → Nat} {k : Nat} {b nb : Int} (h : Best O k b) (hn : ((b < 0 ∨ (O k : Int) < b) ∧ nb = (O k : Int)) ∨ (¬ (b < 0) ∧ ¬ ((O k : Int) < b) ∧ nb = b)) : Best O (k + 1) nb := by
  rcases h with ⟨rfl, rfl⟩ | ⟨m, rfl, ⟨i, hi, hm⟩, hall⟩
  · have : nb = (O 0 : Int) := by omega
    refine Or.inr ⟨O 0, this, ⟨0, by omega, rfl⟩, fun i hi => ?_⟩
    have hi0 : i = 0 := by omega
    rw [hi0]; exact Nat.le_refl _
  · rcases hn with ⟨h1, h2⟩ | ⟨h1, h2, h3⟩
    · refine Or.inr ⟨O k, h2, ⟨k, by omega, rfl⟩, fun j hj => ?_⟩
      by_cases e : j = k
      · rw [e]; exact Nat.le_refl _
      · have := hall j (by omega); omega
    · refine Or.inr ⟨m, h3, ⟨i, by omega, hm⟩, fun j hj => ?_⟩
      by_cases e : j = k
      · rw [e]; omega
      · exact hall j (by omega)

theorem len_map (w : World) (b n c : Nat) (es : Array MapEntry) (hb : w.heap[b]? = some (.map es c)) (hn : es.size = n) : (Builtin.len_ #[54] 3 #[.map (some b)]).run Yba.prog w = .ok (.int .i64 (n : Int)) w := by
  subst hn
  simp [Builtin.len_, run_underlying Yba.underlying54, MapKept.run_getObj_map hb, goInt, Result.andThen]

theorem add_best (m v : Nat) (hm : m < 4294967296) (hv : v = m + 100000000) (w : World) : Calls Yba.prog 5 #[.agg #[.int .u64 0, .int .i64 0, .pointer none], .int .i64 ((m : Int) + 100000000)] w fun e w' => e = .returned (.agg #[.int .u64 (nano v : Int), .int .i64 (secs v : Int), .pointer none]) ∧ Below w.heap.size w w' := by
  have h := add5 0 v w (by omega) (by omega)
  rw [show nano 0 = 0 from rfl, show secs 0 = 0 from rfl, Nat.zero_add, show (v : Int) = (m : Int) + 100000000 by omega] at h
  refine Calls.mono h ?_
  rintro e w' ⟨rfl, rfl⟩
  exact ⟨rfl, ((Below.refl _ w).alloc (Nat.le_refl _) _).alloc (by simp) _⟩

theorem equal_self (v : Nat) (w : World) : Calls Yba.prog 9 #[.agg #[.int .u64 (nano v : Int), .int .i64 (secs v : Int), .pointer none], .agg #[.int .u64 (nano v : Int), .int .i64 (secs v : Int), .pointer none]] w fun e w' => e = .returned (.bool true) ∧ Below w.heap.size w w' := by
  have h := equal9 (nano v) (secs v) (nano v) (secs v) w (nano_lt _) (nano_lt _)
  rw [show decide (secs v = secs v ∧ nano v = nano v) = true by simp] at h
  refine Calls.mono h ?_
  rintro e w' ⟨rfl, rfl⟩
  exact ⟨rfl, ((Below.refl _ w).alloc (Nat.le_refl _) _).alloc (by simp) _⟩

/-- The round's end. -/
theorem at_step {w wr w6 w7 w8 : World} {k x y f mo f' : Nat} {Q X Y : Nat → Nat} {cs : Array Value} (h : At w wr w.heap.size k Q X Y) (hF : Fill wr w6 x y f mo f' cs) (hC : Client w6 (wr.heap.size + 1) (X k) (Y k)) (hN : w.heap.size + 1 + 1 < wr.heap.size)
    (hw7 : w7 = setBlock w6.drew w.heap.size (.map ((ents Q k).push ⟨kv k, .pointer (some ⟨wr.heap.size + 1, 0, none⟩), k⟩) (k + 1)))
    (hw8 : w8 = setBlock w7.drew (w.heap.size + 1) (.map ((ents Q k).push ⟨kv k, .pointer (some ⟨wr.heap.size + 1, 0, none⟩), k⟩) (k + 1))) :
    At w w8 w.heap.size (k + 1) (fun i => if i = k then wr.heap.size + 1 else Q i) X Y := by
  have hs := hF.bel.size
  obtain ⟨s7, o7, b7⟩ := setb hw7 (show w.heap.size < w6.heap.size by omega)
  obtain ⟨s8, o8, b8⟩ := setb hw8 (show w.heap.size + 1 < w7.heap.size by omega)
  have hb : ∀ c, c ≠ w.heap.size → c ≠ w.heap.size + 1 → w8.heap[c]? = w6.heap[c]? := fun c h1 h2 => (b8 c h2).trans (b7 c h1)
  have m1 : w6.heap[w.heap.size]? = some (.map (ents Q k) k) := (hF.bel.block _ (by omega)).trans h.m1
  have m2 : w6.heap[w.heap.size + 1]? = some (.map (ents Q k) k) := (hF.bel.block _ (by omega)).trans h.m2
  have hk : ∀ {a : Addr} {v : Value}, w6.cell? a = some v → w8.cell? a = some v := fun {a v} e => by
    refine (cell_congr (hb a.block ?_ ?_)).trans e
    · intro e'
      rw [not_map (w := w6) (a := a) (by rw [e']; exact m1)] at e
      cases e
    · intro e'
      rw [not_map (w := w6) (a := a) (by rw [e']; exact m2)] at e
      cases e
  have hcl : ∀ q a b, Client w6 q a b → Client w8 q a b := fun q a b hc => by
    obtain ⟨f, n, c, h, h1, h2, h3, h4, h5, h6, h7, h8, h9, h10⟩ := hc
    exact ⟨f, n, c, h, h1, h2, hk h3, hk h4, hk h5, hk h6, hk h7, hk h8, hk h9, hk h10⟩
  refine ⟨?_, ?_, ?_, ?_, ?_, ?_⟩
  · have hx := h.bel.trans (hF.bel.mono (by omega))
    refine ⟨?_, ?_, ?_, by rw [s8, s7]; exact hx.size, fun b hlt => (hb b (by omega) (by omega)).trans (hx.block b hlt)⟩
    · subst hw8; subst hw7; exact hx.os
    · subst hw8; subst hw7; exact hx.tape
    · subst hw8; subst hw7; exact hx.output
  · rw [b8 _ (by omega), o7, ents_step]
  · rw [o8, ents_step]
  · rw [hb _ (by omega) (by omega)]; exact (hF.bel.block _ hN).trans h.p
  · intro i hi
    by_cases e : i = k
    · subst e; simp only [if_true]; exact hcl _ _ _ hC
    · simp only [if_neg e]; exact hcl _ _ _ ((h.cl i (by omega)).below hF.bel)
  · intro i hi
    by_cases e : i = k
    · subst e; simp only [if_true]; omega
    · simp only [if_neg e]; exact h.q i (by omega)

set_option maxRecDepth 100000 in
set_option maxHeartbeats 2000000 in
theorem law_main (a : Option Addr) (n cap : Nat) (X Y F M : Nat → Nat) (w : World) (h1 : Ins w a n X Y F M) (hn : n ≤ 1024) :
    Calls Yba.prog 3 #[.slice a n cap] w fun e w' => e = .returned (.bool true) ∧ Below w.heap.size w w' := by
  have hb1 : decide ((1024 : Int) < (n : Int)) = false := by simp; omega
  have hA0 : At w (((w.alloc (.map #[] 0)).alloc (.map #[] 0)).alloc (.cells #[.nilFunc, .map (some w.heap.size), .map (some (w.heap.size + 1)), .int .i64 0, .int .u64 0, .int .i64 0, .pointer none] 56)) w.heap.size 0 (fun _ => 0) X Y := by
    refine ⟨(((Below.refl _ w).alloc (Nat.le_refl _) _).alloc (by simp) _).alloc (by simp <;> omega) _, ?_, ?_, ?_, fun i hi => by omega, fun i hi => by omega⟩
    · rw [Below.heap_alloc _ _ _ (by simp <;> omega), Below.heap_alloc _ _ _ (by simp)]; exact cell_of_alloc w _
    · rw [Below.heap_alloc _ _ _ (by simp)]
      have := cell_of_alloc (w.alloc (.map #[] 0)) (.map #[] 0)
      simp only [World.size_alloc] at this
      exact this
    · simpa using cell_of_alloc ((w.alloc (.map #[] 0)).alloc (.map #[] 0)) (.cells #[.nilFunc, .map (some w.heap.size), .map (some (w.heap.size + 1)), .int .i64 0, .int .u64 0, .int .i64 0, .pointer none] 56)
  go_enter Yba.func3, Yba.ntmps3
  go_wp2_with fail
  refine Calls.mono (new4 w) ?_
  rintro e w0 ⟨rfl, hw0⟩
  rw [← hw0] at hA0
  clear hw0
  go_wp2_with fail
  go_loopw [4, 5] (fun b x wr => ∃ k : Nat, k ≤ n ∧ x = .int .i64 k ∧ (∃ bb, b = .int .i64 bb ∧ Best (fun i => min (X i) (Y i)) k bb) ∧ ∃ Q, At w wr w.heap.size k Q X Y) (fun _ x _ => n - (intOf x).toNat)
  case atStart => exact ⟨0, Nat.zero_le _, rfl, ⟨_, rfl, Or.inl ⟨rfl, rfl⟩⟩, _, hA0⟩
  case round =>
    clear hA0
    obtain ⟨k, hk, rfl, ⟨bb, rfl, hbb⟩, Q, hA⟩ := hrel
    by_cases hlt : k < n
    · have hik := h1.idx cap k hlt
      have hI := h1.below hA.bel
      have c0 := hI.c0 k hlt
      have c1 := hI.c1 k hlt
      have c2 := hI.c2 k hlt
      have c3 := hI.c3 k hlt
      obtain ⟨hx, hy, hf, hm⟩ := h1.bd k hlt
      have hca1 := cellOf_add a (k * 4) 1
      have hca2 := cellOf_add a (k * 4) 2
      have hca3 := cellOf_add a (k * 4) 3
      have HA : Hid _ := hA
      clear hA hI
      obtain ⟨x, hxx⟩ : ∃ x, Hid (X k = x) := ⟨_, rfl⟩
      obtain ⟨y, hyy⟩ : ∃ y, Hid (Y k = y) := ⟨_, rfl⟩
      rw [hxx.out] at c0 hx
      rw [hyy.out] at c1 hy
      generalize F k = f at *
      generalize M k = mo at *
      have hz36 := zero36
      obtain ⟨Z, hZ⟩ : ∃ Z, Z = Z36 := ⟨_, rfl⟩
      rw [← hZ] at hz36
      have hring := ring0
      rw [← hZ] at hring
      obtain ⟨W, hW⟩ : ∃ W, W = (wr.alloc (.cells #[.int .u32 (x : Int), .int .u32 (y : Int), .int .u8 (f : Int), .int .u8 (mo : Int)] 27)).alloc (.cells Z 36) := ⟨_, rfl⟩
      have hD : W.heap[wr.heap.size]? = some (.cells #[.int .u32 (x : Int), .int .u32 (y : Int), .int .u8 (f : Int), .int .u8 (mo : Int)] 27 (0, 0)) := by
        rw [hW, Below.heap_alloc _ _ _ (by simp)]; exact cell_of_alloc wr _
      have hQ : W.heap[wr.heap.size + 1]? = some (.cells Z 36 (0, 0)) := by
        rw [hW]
        have := cell_of_alloc (wr.alloc (.cells #[.int .u32 (x : Int), .int .u32 (y : Int), .int .u8 (f : Int), .int .u8 (mo : Int)] 27)) (.cells Z 36)
        simp only [World.size_alloc] at this
        exact this
      have hBW : Below wr.heap.size wr W := by rw [hW]; exact ((Below.refl _ wr).alloc (Nat.le_refl _) _).alloc (by simp) _
      have hWs : W.heap.size = wr.heap.size + 2 := by rw [hW]; simp
      clear hZ
      go_upto_region 10 with fail
      rw [← hW]
      clear hW hz36 c0 c1 c2 c3 hca1 hca2 hca3 hik
      obtain ⟨f', hf'⟩ : ∃ f' : Nat, (f : Int) % 64 = (f' : Int) := ⟨f % 64, by omega⟩
      have hf64 : f' < 64 := by omega
      have d0 : W.cell? ⟨wr.heap.size, 2, none⟩ = some (.int .u8 (f : Int)) := by rw [cell_of_row _ _ _ _ _ _ hD]; rfl
      obtain ⟨u0, hu0⟩ := hring.a
      have e0 : W.cell? ⟨wr.heap.size + 1, 192, none⟩ = some u0 := by rw [cell_of_row _ _ _ _ _ _ hQ]; exact hu0
      have e1 : W.frozen? ⟨wr.heap.size + 1, 192, none⟩ = false := by simp [World.frozen?, hQ]
      obtain ⟨W1, hW1⟩ : ∃ W1, W1 = W.setCell ⟨wr.heap.size + 1, 192, none⟩ (.int .i64 (f' : Int)) := ⟨_, rfl⟩
      obtain ⟨cs1, hF1⟩ : ∃ cs1, Fill wr W1 x y f mo f' cs1 := by
        rw [hW1]
        exact ⟨_, hBW.setCell (Nat.le_succ _) _, by rw [Below.heap_setCell _ _ _ _ (by simp)]; exact hD, heap_setCell_same _ _ 192 _ _ _ hQ, hring.set 192 _, set_same hu0⟩
      go_upto_region 11 with fail
      rw [← hW1]
      clear hW1 hBW hD hQ hring hu0 e0 e1 d0 hf' hWs
      have hlt1 := (Array.getElem?_eq_some_iff.1 hF1.q).1
      obtain ⟨⟨u1, hu1⟩, ⟨u2, hu2⟩, ⟨u3, hu3⟩⟩ := hF1.ring.r f' hf64
      have e0 : W1.cell? ⟨wr.heap.size + 1, 192, none⟩ = some (.int .i64 (f' : Int)) := by rw [cell_of_row _ _ _ _ _ _ hF1.q]; exact hF1.first
      have e1 : W1.cell? ⟨wr.heap.size + 1, f' * 3, none⟩ = some u1 := by rw [cell_of_row _ _ _ _ _ _ hF1.q]; exact hu1
      have e2 : W1.cell? ⟨wr.heap.size + 1, f' * 3 + 1, none⟩ = some u2 := by rw [cell_of_row _ _ _ _ _ _ hF1.q]; exact hu2
      have e3 : W1.cell? ⟨wr.heap.size + 1, f' * 3 + 2, none⟩ = some u3 := by rw [cell_of_row _ _ _ _ _ _ hF1.q]; exact hu3
      have e4 : W1.cell? ⟨wr.heap.size, 1, none⟩ = some (.int .u32 (y : Int)) := by rw [cell_of_row _ _ _ _ _ _ hF1.d]; rfl
      have e5 : ∀ o, W1.frozen? ⟨wr.heap.size + 1, o, none⟩ = false := fun o => by simp [World.frozen?, hF1.q]
      have hwy : IntKind.i64.wrap (y : Int) = (y : Int) := by rw [IntKind.wrap_i64]; omega
      have HAdd : Hid _ := add0 y hy
      have HF1 : Hid _ := hF1
      clear hF1 hu1 hu2 hu3
      go_cut [] from 16 to 105 (fun wc => ∃ cs, Fill wr wc x y f mo f' cs ∧ cs[f' * 3]? = some (.int .u64 (nano y : Int)) ∧ cs[f' * 3 + 1]? = some (.int .i64 (secs y : Int)) ∧ cs[f' * 3 + 2]? = some (.pointer none))
      case first =>
        go_region_with (go_at_call 5; refine Calls.mono (HAdd.out _) ?_; rintro e w' ⟨rfl, hB'⟩; have HB' : Hid (Below W1.heap.size W1 w') := ⟨hB'.os, hB'.tape, hB'.output, hB'.size, hB'.block⟩; clear hB'; have s0 := (HB'.out.cell (p := ⟨wr.heap.size + 1, 192, none⟩) hlt1).trans e0; have s1 := (HB'.out.cell (p := ⟨wr.heap.size + 1, f' * 3, none⟩) hlt1).trans e1; have s2 := (HB'.out.cell (p := ⟨wr.heap.size + 1, f' * 3 + 1, none⟩) hlt1).trans e2; have s3 := (HB'.out.cell (p := ⟨wr.heap.size + 1, f' * 3 + 2, none⟩) hlt1).trans e3; have s5 := fun o => (HB'.out.frozen (p := ⟨wr.heap.size + 1, o, none⟩) hlt1).trans (e5 o))
        all_goals (go_wp2_with fail; go_meet; exact (HF1.out.below HB'.out).sent hf64 _ _ _)
      case rest =>
        obtain ⟨cs2, hF2, t0, t1, t2⟩ := hcut
        clear hlt1 e0 e1 e2 e3 e4 e5 HAdd HF1 hwy
        have hlt2 := (Array.getElem?_eq_some_iff.1 hF2.q).1
        obtain ⟨u4, hu4⟩ := hF2.ring.b
        obtain ⟨u5, hu5⟩ := hF2.ring.c
        obtain ⟨nn, hnn⟩ : ∃ nn : Nat, (1 : Int) + (mo : Int) % 3 = (nn : Int) := ⟨1 + mo % 3, by omega⟩
        have hn3 : 0 < nn ∧ nn ≤ 3 := by omega
        have e0 : wc.cell? ⟨wr.heap.size + 1, 193, none⟩ = some u4 := by rw [cell_of_row _ _ _ _ _ _ hF2.q]; exact hu4
        have e1 : ∀ o, wc.frozen? ⟨wr.heap.size + 1, o, none⟩ = false := fun o => by simp [World.frozen?, hF2.q]
        have e2 : wc.cell? ⟨wr.heap.size, 3, none⟩ = some (.int .u8 (mo : Int)) := by rw [cell_of_row _ _ _ _ _ _ hF2.d]; rfl
        have hs2 : (wc.setCell ⟨wr.heap.size + 1, 193, none⟩ (.int .i64 64)).heap.size = wc.heap.size := by simp [World.setCell]
        obtain ⟨i41, hi41, hz0, hz1, hz2⟩ := info_parts info41
        obtain ⟨W3, hmk, hown, hgrow⟩ := run_make_full (wc.setCell ⟨wr.heap.size + 1, 193, none⟩ (.int .i64 64)) wc.heap.size 34 41 i41 _ 5 Yba.underlying34 hi41 hz0 hz1 .i64 .i64 nn (by rw [hz2]; omega) (by unfold maxLen; omega) (by rw [hs2]; exact Nat.le_refl _)
        rw [hs2] at hmk hown
        have hF3' := hF2.set 193 (by omega) (.int .i64 64)
        have hB3 : Below (wc.setCell ⟨wr.heap.size + 1, 193, none⟩ (.int .i64 64)).heap.size (wc.setCell ⟨wr.heap.size + 1, 193, none⟩ (.int .i64 64)) W3 := (Below.refl _ _).grown hgrow (Nat.le_refl _) (by simp)
        have hF3 := hF3'.below hB3
        have hsz3 := hB3.size
        rw [hs2] at hsz3
        have hlt3 := (Array.getElem?_eq_some_iff.1 hF3.q).1
        obtain ⟨hs, hh, hhs⟩ := row_of_own hown hn3.1
        have hhl := (Array.getElem?_eq_some_iff.1 hh).1
        have k0 : W3.cell? ⟨wr.heap.size + 1, 194, none⟩ = some u5 := by rw [cell_of_row _ _ _ _ _ _ hF3.q]; exact set_other hu5 (by omega)
        have k1 : ∀ o, W3.frozen? ⟨wr.heap.size + 1, o, none⟩ = false := fun o => by simp [World.frozen?, hF3.q]
        have HF3 : Hid _ := hF3
        have HT : Hid _ := And.intro t0 (And.intro t1 t2)
        clear hown hgrow hB3 hF3' hF3 hF2 hu4 hu5 t0 t1 t2
        obtain ⟨W4, hW4⟩ : ∃ W4, W4 = W3.setCell ⟨wr.heap.size + 1, 194, none⟩ (.slice (some ⟨wc.heap.size, 0, none⟩) nn nn) := ⟨_, rfl⟩
        go_upto_region 15 with fail
        rw [← hW4]
        have hF4 := HF3.out.set 194 (by omega) (.slice (some ⟨wc.heap.size, 0, none⟩) nn nn)
        rw [← hW4] at hF4
        obtain ⟨u5', hu5'⟩ := HF3.out.ring.c
        have hsl := set_same (u := .slice (some ⟨wc.heap.size, 0, none⟩) nn nn) hu5'
        have hh4 : W4.heap[wc.heap.size]? = some (.cells hs 41 (0, 0)) := by rw [hW4, Below.heap_setCell _ _ _ _ (by simp; omega)]; exact hh
        have T0 := set_other (u := .slice (some ⟨wc.heap.size, 0, none⟩) nn nn) (set_other (u := .int .i64 64) HT.out.1 (show 193 ≠ f' * 3 by omega)) (show 194 ≠ f' * 3 by omega)
        have T1 := set_other (u := .slice (some ⟨wc.heap.size, 0, none⟩) nn nn) (set_other (u := .int .i64 64) HT.out.2.1 (show 193 ≠ f' * 3 + 1 by omega)) (show 194 ≠ f' * 3 + 1 by omega)
        have T2 := set_other (u := .slice (some ⟨wc.heap.size, 0, none⟩) nn nn) (set_other (u := .int .i64 64) HT.out.2.2 (show 193 ≠ f' * 3 + 2 by omega)) (show 194 ≠ f' * 3 + 2 by omega)
        generalize ((cs2.setIfInBounds 193 (.int .i64 64)).setIfInBounds 194 (.slice (some ⟨wc.heap.size, 0, none⟩) nn nn)) = cs4 at *
        have hlt4 := (Array.getElem?_eq_some_iff.1 hF4.q).1
        have hlt5 := (Array.getElem?_eq_some_iff.1 hh4).1
        have m0 : W4.cell? ⟨wr.heap.size + 1, 194, none⟩ = some (.slice (some ⟨wc.heap.size, 0, none⟩) nn nn) := by rw [cell_of_row _ _ _ _ _ _ hF4.q]; exact hsl
        have m1 : W4.cell? ⟨wr.heap.size, 0, none⟩ = some (.int .u32 (x : Int)) := by rw [cell_of_row _ _ _ _ _ _ hF4.d]; rfl
        have m2 : W4.cell? ⟨wc.heap.size, 2, none⟩ = some hs[2] := by rw [cell_of_row _ _ _ _ _ _ hh4]; exact Array.getElem?_eq_getElem (by omega)
        have m3 : W4.cell? ⟨wc.heap.size, 3, none⟩ = some hs[3] := by rw [cell_of_row _ _ _ _ _ _ hh4]; exact Array.getElem?_eq_getElem (by omega)
        have m4 : W4.cell? ⟨wc.heap.size, 4, none⟩ = some hs[4] := by rw [cell_of_row _ _ _ _ _ _ hh4]; exact Array.getElem?_eq_getElem (by omega)
        have m5 : ∀ o, W4.frozen? ⟨wc.heap.size, o, none⟩ = false := fun o => by simp [World.frozen?, hh4]
        have hwx : IntKind.i64.wrap (x : Int) = (x : Int) := by rw [IntKind.wrap_i64]; omega
        have HAdd : Hid _ := add0 x hx
        have HF4 : Hid _ := hF4
        have HQ : Hid _ := And.intro hh4 (And.intro hsl (And.intro T0 (And.intro T1 T2)))
        have hn0 := hn3.1
        generalize hs[2] = g2 at *
        generalize hs[3] = g3 at *
        generalize hs[4] = g4 at *
        clear hW4 hF4 hsl T0 T1 T2 hu5' hmk hh HF3 HT k0 k1 e0 e1 e2 hnn
        go_cut [] from 16 to 105 (fun wd => (∃ cs, Fill wr wd x y f mo f' cs) ∧ Client wd (wr.heap.size + 1) x y)
        case first =>
          go_region_with (go_at_call 5; refine Calls.mono (HAdd.out _) ?_; rintro e w' ⟨rfl, hB'⟩; have HB' : Hid (Below W4.heap.size W4 w') := ⟨hB'.os, hB'.tape, hB'.output, hB'.size, hB'.block⟩; clear hB'; have s0 := (HB'.out.cell (p := ⟨wr.heap.size + 1, 194, none⟩) hlt4).trans m0; have s1 := (HB'.out.cell (p := ⟨wc.heap.size, 2, none⟩) hlt5).trans m2; have s2 := (HB'.out.cell (p := ⟨wc.heap.size, 3, none⟩) hlt5).trans m3; have s3 := (HB'.out.cell (p := ⟨wc.heap.size, 4, none⟩) hlt5).trans m4; have s5 := fun o => (HB'.out.frozen (p := ⟨wc.heap.size, o, none⟩) hlt5).trans (m5 o))
          all_goals (go_wp2_with fail; go_meet; exact fill_held (HF4.out.below HB'.out) hf64 hn0 hhs (by omega) ((HB'.out.block _ hlt5).trans HQ.out.1) HQ.out.2.1 HQ.out.2.2.1 HQ.out.2.2.2.1 HQ.out.2.2.2.2)
        case rest =>
          obtain ⟨⟨cs5, hF5⟩, hCl⟩ := hcut
          clear hlt4 hlt5 hh4 m0 m1 m2 m3 m4 m5 hwx HAdd HF4 HQ hhl hhs
          have hsr := hF5.bel.size
          have hNr : w.heap.size + 1 + 1 < wr.heap.size := (Array.getElem?_eq_some_iff.1 HA.out.p).1
          have hk16 : IntKind.u16.wrap (k : Int) = (k : Int) := by rw [IntKind.wrap_u16]; omega
          have HP6 : Hid _ := port6 (k : Int) wc
          go_wp2_with fail
          refine Calls.mono HP6.out ?_
          rintro e w5 ⟨rfl, hw5⟩
          have hB5 : Below wc.heap.size wc w5 := by rw [hw5]; exact ((Below.refl _ wc).alloc (Nat.le_refl _) _).alloc (by simp) _
          clear hw5 HP6
          have hs5 := hB5.size
          obtain ⟨w6, hw6⟩ : ∃ w6, w6 = w5.alloc (.cells #[.int .u64 0, .int .u64 0, .pointer none, .int .u16 (k : Int)] 51) := ⟨_, rfl⟩
          have hB6 : Below wc.heap.size wc w6 := by rw [hw6]; exact hB5.alloc hs5 _
          have hF6 := hF5.below hB6
          have hC6 := hCl.below hB6
          have hk6 : w6.heap[w5.heap.size]? = some (.cells #[.int .u64 0, .int .u64 0, .pointer none, .int .u16 (k : Int)] 51 (0, 0)) := by rw [hw6]; exact cell_of_alloc w5 _
          go_upto_region 17 with fail
          rw [← hw6]
          have hs6 := hF6.bel.size
          have hA := HA.out
          have p6 : w6.heap[w.heap.size + 1 + 1]? = some (.cells #[.nilFunc, .map (some w.heap.size), .map (some (w.heap.size + 1)), .int .i64 0, .int .u64 0, .int .i64 0, .pointer none] 56 (0, 0)) := (hF6.bel.block _ hNr).trans hA.p
          have n6 : w6.heap[w.heap.size]? = some (.map (ents Q k) k) := (hF6.bel.block _ (by omega)).trans hA.m1
          have n7 : w6.heap[w.heap.size + 1]? = some (.map (ents Q k) k) := (hF6.bel.block _ (by omega)).trans hA.m2
          have hnew : ∀ z ∈ (ents Q k).toList, ∃ j : Int, z.key = kv j ∧ (k : Int) ≠ j := fun z hz => by
            obtain ⟨i, hi, rfl⟩ := ents_mem hz
            exact ⟨i, rfl, by omega⟩
          obtain ⟨w7, hw7⟩ : ∃ w7, w7 = setBlock w6.drew w.heap.size (.map ((ents Q k).push ⟨kv k, .pointer (some ⟨wr.heap.size + 1, 0, none⟩), k⟩) (k + 1)) := ⟨_, rfl⟩
          have hup1 : (Instr.mapUpdate 54 (.map (some w.heap.size)) (.agg #[.int .u64 0, .int .u64 0, .pointer none, .int .u16 (k : Int)]) (.pointer (some ⟨wr.heap.size + 1, 0, none⟩))).run Yba.prog w6.drew = .ok () w7 := by
            rw [hw7]; exact update51 w6.drew w.heap.size k k (ents Q k) _ n6 hnew
          obtain ⟨s7, o7, b7⟩ := setb hw7 (show w.heap.size < w6.heap.size by omega)
          have p7 := (b7 _ (show w.heap.size + 1 + 1 ≠ w.heap.size by omega)).trans p6
          have n8 := (b7 _ (show w.heap.size + 1 ≠ w.heap.size by omega)).trans n7
          have hk7 := (b7 w5.heap.size (by omega)).trans hk6
          obtain ⟨w8, hw8⟩ : ∃ w8, w8 = setBlock w7.drew (w.heap.size + 1) (.map ((ents Q k).push ⟨kv k, .pointer (some ⟨wr.heap.size + 1, 0, none⟩), k⟩) (k + 1)) := ⟨_, rfl⟩
          have hup2 : (Instr.mapUpdate 54 (.map (some (w.heap.size + 1))) (.agg #[.int .u64 0, .int .u64 0, .pointer none, .int .u16 (k : Int)]) (.pointer (some ⟨wr.heap.size + 1, 0, none⟩))).run Yba.prog w7.drew = .ok () w8 := by
            rw [hw8]; exact update51 w7.drew (w.heap.size + 1) k k (ents Q k) _ n8 hnew
          obtain ⟨s8, o8, b8⟩ := setb hw8 (show w.heap.size + 1 < w7.heap.size by omega)
          have l0 : w6.cell? ⟨w.heap.size + 1 + 1, 1, none⟩ = some (.map (some w.heap.size)) := by rw [cell_of_row _ _ _ _ _ _ p6]; rfl
          have l1 : w7.cell? ⟨w.heap.size + 1 + 1, 2, none⟩ = some (.map (some (w.heap.size + 1))) := by rw [cell_of_row _ _ _ _ _ _ p7]; rfl
          have q0 : w6.cell? ⟨w5.heap.size, 0, none⟩ = some (.int .u64 0) := by rw [cell_of_row _ _ _ _ _ _ hk6]; rfl
          have q1 : w6.cell? ⟨w5.heap.size, 1, none⟩ = some (.int .u64 0) := by rw [cell_of_row _ _ _ _ _ _ hk6]; rfl
          have q2 : w6.cell? ⟨w5.heap.size, 2, none⟩ = some (.pointer none) := by rw [cell_of_row _ _ _ _ _ _ hk6]; rfl
          have q3 : w6.cell? ⟨w5.heap.size, 3, none⟩ = some (.int .u16 (k : Int)) := by rw [cell_of_row _ _ _ _ _ _ hk6]; rfl
          have r0 : w7.cell? ⟨w5.heap.size, 0, none⟩ = some (.int .u64 0) := by rw [cell_of_row _ _ _ _ _ _ hk7]; rfl
          have r1 : w7.cell? ⟨w5.heap.size, 1, none⟩ = some (.int .u64 0) := by rw [cell_of_row _ _ _ _ _ _ hk7]; rfl
          have r2 : w7.cell? ⟨w5.heap.size, 2, none⟩ = some (.pointer none) := by rw [cell_of_row _ _ _ _ _ _ hk7]; rfl
          have r3 : w7.cell? ⟨w5.heap.size, 3, none⟩ = some (.int .u16 (k : Int)) := by rw [cell_of_row _ _ _ _ _ _ hk7]; rfl
          have HA8 : Hid (At w w8 w.heap.size (k + 1) (fun i => if i = k then wr.heap.size + 1 else Q i) X Y) := at_step hA hF6 (by rw [hxx.out, hyy.out]; exact hC6) hNr hw7 hw8
          have hd8 : w8.heap[wr.heap.size]? = some (.cells #[.int .u32 (x : Int), .int .u32 (y : Int), .int .u8 (f : Int), .int .u8 (mo : Int)] 27 (0, 0)) := ((b8 _ (by omega)).trans (b7 _ (by omega))).trans hF6.d
          have D0 : w8.cell? ⟨wr.heap.size, 0, none⟩ = some (.int .u32 (x : Int)) := by rw [cell_of_row _ _ _ _ _ _ hd8]; rfl
          have D1 : w8.cell? ⟨wr.heap.size, 1, none⟩ = some (.int .u32 (y : Int)) := by rw [cell_of_row _ _ _ _ _ _ hd8]; rfl
          clear hw6 hB5 hB6 hF5 hCl hw7 hw8 hA p6 n6 n7 hnew p7 n8 hk7 hk6 hd8 hF6 hC6 o7 o8 b7 b8
          go_region
          go_wp2_with fail
          go_region
          have hok : min (X k) (Y k) = min x y := by rw [hxx.out, hyy.out]
          have hbs := fun nb => @best_step (fun i => min (X i) (Y i)) k bb nb
          simp only [hok] at hbs
          have HBS : Hid _ := hbs
          have HBB : Hid _ := hbb
          have hbr : bb = -1 ∨ ∃ m : Nat, bb = (m : Int) ∧ m < 4294967296 := by
            rcases hbb with ⟨_, h⟩ | ⟨m, h, ⟨i, hi, hm⟩, _⟩
            · exact Or.inl h
            · have := (h1.bd i (by omega)).1
              have hm' : min (X i) (Y i) = m := hm
              exact Or.inr ⟨m, h, by omega⟩
          clear hbs hbb hok l0 l1 q0 q1 q2 q3 r0 r1 r2 r3 hup1 hup2
          by_cases hyx : y < x
          · have E1 : decide ((y : Int) < (x : Int)) = true := by simp; omega
            have E2 : decide (y < x) = true := by simp; omega
            have hmn : min x y = y := by omega
            rw [hmn] at HBS
            rcases hbr with rfl | ⟨m, rfl, hm32⟩
            · go_wp2_with fail
              go_roundw
              case rel => exact ⟨k + 1, by omega, by go_num, ⟨_, rfl, HBS.out _ HBB.out (Or.inl ⟨Or.inl (by omega), rfl⟩)⟩, _, HA8.out⟩
              case measure => simp [intOf]; omega
            · by_cases hom : y < m
              · have E3 : decide ((y : Int) < (m : Int)) = true := by simp; omega
                have E4 : decide (y < m) = true := by simp; omega
                go_wp2_with fail
                go_roundw
                case rel => exact ⟨k + 1, by omega, by go_num, ⟨_, rfl, HBS.out _ HBB.out (Or.inl ⟨Or.inr (by omega), rfl⟩)⟩, _, HA8.out⟩
                case measure => simp [intOf]; omega
              · have E3 : decide ((y : Int) < (m : Int)) = false := by simp; omega
                have E4 : decide (y < m) = false := by simp; omega
                go_wp2_with fail
                go_roundw
                case rel => exact ⟨k + 1, by omega, by go_num, ⟨_, rfl, HBS.out _ HBB.out (Or.inr ⟨by omega, by omega, rfl⟩)⟩, _, HA8.out⟩
                case measure => simp [intOf]; omega
          · have E1 : decide ((y : Int) < (x : Int)) = false := by simp; omega
            have E2 : decide (y < x) = false := by simp; omega
            have hmn : min x y = x := by omega
            rw [hmn] at HBS
            rcases hbr with rfl | ⟨m, rfl, hm32⟩
            · go_wp2_with fail
              go_roundw
              case rel => exact ⟨k + 1, by omega, by go_num, ⟨_, rfl, HBS.out _ HBB.out (Or.inl ⟨Or.inl (by omega), rfl⟩)⟩, _, HA8.out⟩
              case measure => simp [intOf]; omega
            · by_cases hom : x < m
              · have E3 : decide ((x : Int) < (m : Int)) = true := by simp; omega
                have E4 : decide (x < m) = true := by simp; omega
                go_wp2_with fail
                go_roundw
                case rel => exact ⟨k + 1, by omega, by go_num, ⟨_, rfl, HBS.out _ HBB.out (Or.inl ⟨Or.inr (by omega), rfl⟩)⟩, _, HA8.out⟩
                case measure => simp [intOf]; omega
              · have E3 : decide ((x : Int) < (m : Int)) = false := by simp; omega
                have E4 : decide (x < m) = false := by simp; omega
                go_wp2_with fail
                go_roundw
                case rel => exact ⟨k + 1, by omega, by go_num, ⟨_, rfl, HBS.out _ HBB.out (Or.inr ⟨by omega, by omega, rfl⟩)⟩, _, HA8.out⟩
                case measure => simp [intOf]; omega
    · have hkn : n = k := by omega
      subst hkn
      have hP : wr.cell? ⟨w.heap.size + 1 + 1, 2, none⟩ = some (.map (some (w.heap.size + 1))) := by rw [cell_of_row _ _ _ _ _ _ hA.p]; rfl
      have HDue : Hid _ := due7 (w.heap.size + 1 + 1) (w.heap.size + 1) n Q X Y wr hP hA.m2 hA.cl (fun i hi => (h1.bd i hi).1)
      have hpl := (Array.getElem?_eq_some_iff.1 hA.p).1
      go_wp2_with fail
      refine Calls.mono HDue.out ?_
      rintro e wd ⟨v, rfl, hv, hBd⟩
      have hsd := hBd.size
      obtain ⟨w9, hw9⟩ : ∃ w9, w9 = wd.alloc (.cells #[.int .u64 (nano v : Int), .int .i64 (secs v : Int), .pointer none] 32) := ⟨_, rfl⟩
      have hB9 : Below wr.heap.size wr w9 := by rw [hw9]; exact hBd.alloc hsd _
      have p9 := (hB9.block _ hpl).trans hA.p
      have m9 := (hB9.block _ (by omega)).trans hA.m1
      have m10 := (hB9.block _ (by omega)).trans hA.m2
      have hv9 : w9.heap[wd.heap.size]? = some (.cells #[.int .u64 (nano v : Int), .int .i64 (secs v : Int), .pointer none] 32 (0, 0)) := by rw [hw9]; exact cell_of_alloc wd _
      have hBw : Below w.heap.size w w9 := hA.bel.trans (hB9.mono (by omega))
      have hes : (ents Q n).size = n := by simp [ents]
      have l1 : w9.cell? ⟨w.heap.size + 1 + 1, 1, none⟩ = some (.map (some w.heap.size)) := by rw [cell_of_row _ _ _ _ _ _ p9]; rfl
      have l2 : w9.cell? ⟨w.heap.size + 1 + 1, 2, none⟩ = some (.map (some (w.heap.size + 1))) := by rw [cell_of_row _ _ _ _ _ _ p9]; rfl
      have v0 : w9.cell? ⟨wd.heap.size, 0, none⟩ = some (.int .u64 (nano v : Int)) := by rw [cell_of_row _ _ _ _ _ _ hv9]; rfl
      have v1 : w9.cell? ⟨wd.heap.size, 1, none⟩ = some (.int .i64 (secs v : Int)) := by rw [cell_of_row _ _ _ _ _ _ hv9]; rfl
      have v2 : w9.cell? ⟨wd.heap.size, 2, none⟩ = some (.pointer none) := by rw [cell_of_row _ _ _ _ _ _ hv9]; rfl
      have g1 := len_map w9 w.heap.size n n _ m9 hes
      have g2 := len_map w9 (w.heap.size + 1) n n _ m10 hes
      clear HDue hP hA hBd p9 hv9 m9 m10 hes
      go_upto_region 25 with fail
      rw [← hw9]
      clear hw9
      rcases hbb with ⟨rfl, rfl⟩ | ⟨m, rfl, ⟨i, hi, hmi⟩, hall⟩
      · have hv0 : v = 0 := by
          rcases hv with ⟨_, h⟩ | ⟨_, _, ⟨i, hi, _⟩, _⟩
          · exact h
          · omega
        have hdz : decide (nano v = 0 ∧ secs v = 0) = true := decide_eq_true ((zero_iff v).2 hv0)
        have hz8 := zero8 (nano v) (secs v) w9
        rw [hdz] at hz8
        have HZ8 : Hid _ := hz8
        clear hz8 hdz hv0 hv
        go_wp2_with fail
        refine Calls.mono HZ8.out ?_
        rintro e w10 ⟨rfl, rfl⟩
        go_wp2
        go_ret
        exact ⟨rfl, hBw.alloc hBw.size _⟩
      · have hvm : v = m + 100000000 := by
          rcases hv with ⟨h, _⟩ | ⟨m', h, ⟨j, hj, _, hmj⟩, hall'⟩
          · cases h i hi
          · have h1 : min (X i) (Y i) = m := hmi
            have h2 : min (X j) (Y j) = m' := hmj
            have h3 : m ≤ min (X j) (Y j) := hall j hj
            have h4 : m' ≤ min (X i) (Y i) := hall' i hi rfl
            omega
        have hm32 : m < 4294967296 := by
          have := (h1.bd i hi).1
          have h1 : min (X i) (Y i) = m := hmi
          omega
        have hAd := add_best m v hm32 hvm
        have HAd : Hid _ := hAd
        have HEq : Hid _ := equal_self v
        have hwm : IntKind.i64.wrap ((m : Int) + 100000000) = (m : Int) + 100000000 := by rw [IntKind.wrap_i64]; omega
        have hvl := lt_of_cell v0
        simp only at hvl
        clear hAd hall hmi hv hvm
        have hm0 : decide ((m : Int) < 0) = false := by simp
        go_upto_region 27 with fail
        go_wp2_with fail
        clear g1 g2 l1 l2
        go_region_with (first
          | (go_at_call 5; refine Calls.mono (HAd.out _) ?_; rintro e w' ⟨rfl, hB'⟩; have HB' : Hid (Below w9.heap.size w9 w') := ⟨hB'.os, hB'.tape, hB'.output, hB'.size, hB'.block⟩; clear hB'; have s0 := (HB'.out.cell (p := ⟨wd.heap.size, 0, none⟩) hvl).trans v0; have s1 := (HB'.out.cell (p := ⟨wd.heap.size, 1, none⟩) hvl).trans v1; have s2 := (HB'.out.cell (p := ⟨wd.heap.size, 2, none⟩) hvl).trans v2)
          | (go_at_call 9; refine Calls.mono (HEq.out _) ?_; rintro e w'' ⟨rfl, hB''⟩; have HB'' : Hid (Below w'.heap.size w' w'') := ⟨hB''.os, hB''.tape, hB''.output, hB''.size, hB''.block⟩; clear hB''))
        all_goals (go_wp2_with fail; go_ret; exact ⟨rfl, (hBw.trans (HB'.out.mono hBw.size)).trans (HB''.out.mono (Nat.le_trans hBw.size HB'.out.size))⟩)

set_option maxRecDepth 100000 in
theorem law_big (a : Option Addr) (n cap : Nat) (w : World) (hb : 1024 < n) (hn : n ≤ maxLen) :
    Calls Yba.prog 3 #[.slice a n cap] w fun e w' => e = .returned (.bool true) ∧ Below w.heap.size w w' := by
  unfold maxLen at hn
  have hb1 : decide ((1024 : Int) < (n : Int)) = true := by simp; omega
  go_enter Yba.func3, Yba.ntmps3
  go_wp2
  go_ret
  exact ⟨rfl, Below.refl _ _⟩
end Go.Proofs.Ybulkcoya.Due

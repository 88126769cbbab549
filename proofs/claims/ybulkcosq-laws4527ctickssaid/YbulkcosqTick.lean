/- OUR OWN TEXT. strings.Compare (20), find's closure (19), slices.BinarySearchFunc (18), find (15), tickAt (17), Tick (12): contracts. -/
import Derived.Test.YbulkcosqInsert
import Derived.Test.YbulkcosqExactWalk
import Derived.Test.YbulkcosqTickPlain
namespace Go.Proofs.Ybulkcosq.Tick
open Go.RowKit Go.Proofs.Ybulkcosq.Own Go.Proofs.Ybulkcosq.Clock

theorem call25 (a b : ByteArray) (w : World) : (callFunc 25 #[.string a, .string b]).run Yba.prog w = .ok (.value (.int .i64 (Extern.BytealgCompare.cmp a b))) w := by
  rw [run_callFunc_extern Yba.func25 (by kernel_rfl) (by kernel_rfl) (by kernel_rfl) (e := Extern.BytealgCompare.compare) (by kernel_rfl)]
  rfl

/-- How two letters compare. -/
def cmpL (a b : Nat) : Int := if a < b then -1 else if a = b then 0 else 1

theorem cmp_nm : ∀ a, a < 8 → ∀ b, b < 8 → Extern.BytealgCompare.cmp (nm a) (nm b) = cmpL a b := by decide +kernel

theorem compare20 (a b : Nat) (ha : a < 8) (hb : b < 8) (w : World) : Calls Yba.prog 20 #[.string (nm a), .string (nm b)] w fun e w' => e = .returned (.int .i64 (cmpL a b)) ∧ w' = w := by
  have hc := call25 (nm a) (nm b)
  rw [cmp_nm a ha b hb] at hc
  generalize nm a = x at *
  generalize nm b = y at *
  generalize cmpL a b = r at *
  go_enter Yba.func20, Yba.ntmps20
  go_wp2
  go_ret
  exact ⟨rfl, rfl⟩

theorem enter19 (args : Array Value) (w : World) : (callFunc 19 args).run Yba.prog w = .ok (.enter 19 args) w := by kernel_rfl

/-- find's closure. -/
theorem less19 (a b : Nat) (x : Int) (ha : a < 8) (hb : b < 8) (w : World) : Calls Yba.prog 19 #[.agg #[.string (nm a), .int .u64 x], .string (nm b)] w fun e w' => e = .returned (.int .i64 (cmpL a b)) ∧ w' = w.alloc (.cells #[.string (nm a), .int .u64 x] 45) := by
  have hc := fun w => compare20 a b ha hb w
  have HC : Hid (∀ w, Calls Yba.prog 20 #[.string (nm a), .string (nm b)] w fun e w' => e = .returned (.int .i64 (cmpL a b)) ∧ w' = w) := hc
  clear hc
  generalize nm a = s at *
  generalize nm b = t at *
  generalize cmpL a b = r at *
  go_enter Yba.func19, Yba.ntmps19
  go_wp2_with fail
  refine Calls.mono (HC.out _) ?_
  rintro e w' ⟨rfl, rfl⟩
  go_wp2
  go_ret
  exact ⟨rfl, rfl⟩

theorem cmpL_lt {a b : Nat} (h : a < b) : decide (cmpL a b < 0) = true := by simp [cmpL, h]
theorem cmpL_ge {a b : Nat} (h : ¬ a < b) : decide (cmpL a b < 0) = false := by
  unfold cmpL
  rw [if_neg h]
  split <;> simp
theorem cmpL_eq {a b : Nat} (h : a = b) : (cmpL a b == 0) = true := by simp [cmpL, h]
theorem cmpL_ne {a b : Nat} (h : a ≠ b) : (cmpL a b == 0) = false := by
  unfold cmpL
  by_cases h2 : a < b
  · rw [if_pos h2]; rfl
  · rw [if_neg h2, if_neg h]; rfl

set_option maxHeartbeats 2000000 in
/-- slices.BinarySearchFunc over entries in the order of their letters. -/
theorem search18 (ao : Option Addr) (n cap c p : Nat) (L : Nat → Nat) (C : Nat → Int) (w : World) (hE : Ents w ao n (fun i => nm (L i)) C) (hn : n ≤ 64) (hL : ∀ i, i < n → L i < 8) (hc : c < 8) (hp : p ≤ n) (hlo : ∀ i, i < p → L i < c) (hhi : ∀ i, p ≤ i → i < n → ¬ L i < c) :
    Calls Yba.prog 18 #[.slice ao n cap, .string (nm c), .func (.func 19) #[] #[]] w fun e w' => e = .returned (.tuple #[.int .i64 p, .bool (decide (p < n ∧ L p = c))]) ∧ Below w.heap.size w w' := by
  have hent := enter19
  go_enter Yba.func18, Yba.ntmps18
  go_wp2_with fail
  go_loopw [9, 10] (fun x y wr => ∃ i j : Nat, i ≤ p ∧ p ≤ j ∧ j ≤ n ∧ x = .int .i64 i ∧ y = .int .i64 j ∧ Below w.heap.size w wr) (fun x y _ => (intOf y).toNat - (intOf x).toNat)
  case atStart => exact ⟨0, n, Nat.zero_le _, hp, Nat.le_refl _, rfl, rfl, Below.refl _ _⟩
  case round =>
    obtain ⟨i, j, hi, hj, hjn, rfl, rfl, hbel⟩ := hrel
    have hEr := hE.below hbel
    by_cases hlt : i < j
    · have hd : decide ((i : Int) < (j : Int)) = true := by simp; omega
      obtain ⟨m, hm⟩ : ∃ m : Nat, ((i : Int) + (j : Int)) / 2 = (m : Int) := ⟨(i + j) / 2, by omega⟩
      have hm1 : i ≤ m := by omega
      have hm2 : m < j := by omega
      have hik := hEr.idx cap m (by omega)
      have hs := hEr.c0 m (by omega)
      have hx := hEr.c1 m (by omega)
      have hca := cellOf_add ao (m * 2) 1
      have HC := fun w => less19 (L m) c (C m) (hL m (by omega)) hc w
      by_cases hlc : L m < c
      · have hcb := cmpL_lt hlc
        have hmp : m < p := Nat.lt_of_not_le fun h => hhi m h (by omega) hlc
        have HC' : Hid (∀ w, Calls Yba.prog 19 #[.agg #[.string (nm (L m)), .int .u64 (C m)], .string (nm c)] w fun e w' => e = .returned (.int .i64 (cmpL (L m) c)) ∧ w' = w.alloc (.cells #[.string (nm (L m)), .int .u64 (C m)] 45)) := HC
        clear HC hE hEr
        generalize cmpL (L m) c = r at *
        generalize nm (L m) = s at *
        generalize nm c = t at *
        generalize C m = x at *
        go_wp2_with fail
        refine Calls.mono (HC'.out _) ?_
        rintro e w' ⟨rfl, rfl⟩
        go_wp2
        go_roundw
        case rel => exact ⟨m + 1, j, by omega, hj, hjn, by go_num, rfl, hbel.alloc hbel.size _⟩
        case measure => simp [intOf]; omega
      · have hcb := cmpL_ge hlc
        have hmp : p ≤ m := Nat.le_of_not_lt fun h => hlc (hlo m h)
        have HC' : Hid (∀ w, Calls Yba.prog 19 #[.agg #[.string (nm (L m)), .int .u64 (C m)], .string (nm c)] w fun e w' => e = .returned (.int .i64 (cmpL (L m) c)) ∧ w' = w.alloc (.cells #[.string (nm (L m)), .int .u64 (C m)] 45)) := HC
        clear HC hE hEr
        generalize cmpL (L m) c = r at *
        generalize nm (L m) = s at *
        generalize nm c = t at *
        generalize C m = x at *
        go_wp2_with fail
        refine Calls.mono (HC'.out _) ?_
        rintro e w' ⟨rfl, rfl⟩
        go_wp2
        go_roundw
        case rel => exact ⟨i, m, hi, hmp, by omega, rfl, by go_num, hbel.alloc hbel.size _⟩
        case measure => simp [intOf]; omega
    · have hd : decide ((i : Int) < (j : Int)) = false := by simp; omega
      have hip : i = p := by omega
      subst hip
      by_cases hin : i < n
      · have hdn : decide ((i : Int) < (n : Int)) = true := by simp; omega
        have hik := hEr.idx cap i hin
        have hs := hEr.c0 i hin
        have hx := hEr.c1 i hin
        have hca := cellOf_add ao (i * 2) 1
        have HC := fun w => less19 (L i) c (C i) (hL i hin) hc w
        obtain ⟨res, HR⟩ : ∃ res, Hid (res = decide (i < n ∧ L i = c)) := ⟨_, rfl⟩
        have hcb : (cmpL (L i) c == 0) = res := by
          rw [HR.out]
          by_cases he : L i = c
          · rw [cmpL_eq he]; simp [hin, he]
          · rw [cmpL_ne he]; simp [he]
        have HC' : Hid (∀ w, Calls Yba.prog 19 #[.agg #[.string (nm (L i)), .int .u64 (C i)], .string (nm c)] w fun e w' => e = .returned (.int .i64 (cmpL (L i) c)) ∧ w' = w.alloc (.cells #[.string (nm (L i)), .int .u64 (C i)] 45)) := HC
        clear HC hE hEr
        generalize cmpL (L i) c = r at *
        generalize nm (L i) = s at *
        generalize nm c = t at *
        generalize C i = x at *
        go_wp2_with fail
        refine Calls.mono (HC'.out _) ?_
        rintro e w' ⟨rfl, rfl⟩
        go_wp2
        exact bodyPost_ret (v := .tuple #[.int .i64 i, .bool res]) (by simp [results, Yba.results18, go_sem]) rfl ⟨by rw [HR.out], hbel.alloc hbel.size _⟩
      · have hdn : decide ((i : Int) < (n : Int)) = false := by simp; omega
        have hres : decide (i < n ∧ L i = c) = false := by simp [hin]
        go_wp2
        exact bodyPost_ret (v := .tuple #[.int .i64 i, .bool false]) (by simp [results, Yba.results18, go_sem]) rfl ⟨by rw [hres], hbel⟩

theorem find15 (ao : Option Addr) (n cap c p : Nat) (L : Nat → Nat) (C : Nat → Int) (w : World) (hE : Ents w ao n (fun i => nm (L i)) C) (hn : n ≤ 64) (hL : ∀ i, i < n → L i < 8) (hc : c < 8) (hp : p ≤ n) (hlo : ∀ i, i < p → L i < c) (hhi : ∀ i, p ≤ i → i < n → ¬ L i < c) :
    Calls Yba.prog 15 #[.agg #[.slice ao n cap], .string (nm c)] w fun e w' => e = .returned (.tuple #[.int .i64 p, .bool (decide (p < n ∧ L p = c))]) ∧ Below w.heap.size w w' := by
  have hB : Below w.heap.size w (w.alloc (.cells #[.slice ao n cap] 37)) := (Below.refl _ w).alloc (Nat.le_refl _) _
  have HC : Hid _ := search18 ao n cap c p L C _ (hE.below hB) hn hL hc hp hlo hhi
  go_enter Yba.func15, Yba.ntmps15
  go_wp2_with fail
  refine Calls.mono HC.out ?_
  rintro e w' ⟨rfl, hB'⟩
  obtain ⟨res, hres⟩ : ∃ res, Hid (decide (p < n ∧ L p = c) = res) := ⟨_, rfl⟩
  rw [hres.out]
  go_wp2
  exact bodyPost_ret (v := .tuple #[.int .i64 p, .bool res]) (by simp [results, Yba.results15, go_sem]) rfl ⟨by rw [hres.out], hB.trans (hB'.mono (by simp))⟩

theorem tickAt17 (V g n cap p t : Nat) (w : World) (hV : w.cell? ⟨V, 0, none⟩ = some (.slice (some ⟨g, 0, none⟩) n cap)) (hp : p < n) (ht : t ≤ 4096) (hc : w.cell? ⟨g, p * 2 + 1, none⟩ = some (.int .u64 (t : Int))) (hf : w.frozen? ⟨g, p * 2 + 1, none⟩ = false) :
    Calls Yba.prog 17 #[.pointer (some ⟨V, 0, none⟩), .int .i64 p] w fun e w' => e = .returned (.int .u64 ((t : Int) + 1)) ∧ w' = w.setCell ⟨g, p * 2 + 1, none⟩ (.int .u64 ((t : Int) + 1)) := by
  have hi : (Instr.indexAt 35 (.slice (some ⟨g, 0, none⟩) n cap) (.int .i64 p)).run Yba.prog w = .ok (.pointer (some ⟨g, p * 2, none⟩)) w := by
    rw [run_index_in Yba.underlying35 size45 rfl hp w, cellOf, Option.getD_some, addr_add, Nat.zero_add]
  have hd : ((t : Int) == 18446744073709551615) = false := by simp; omega
  go_enter Yba.func17, Yba.ntmps17
  go_wp2
  go_ret
  exact ⟨rfl, rfl⟩

theorem ents_of_cells {w : World} {base : Nat} {v : Value} {E : List (Nat × Nat)} (h : w.ownsRow base 45 2 v E.length (cells E)) : ∃ ao cap, v = .slice ao E.length cap ∧ Ents w ao E.length (fun i => nm (let_ E i)) (fun i => (cnt E i : Int)) := by
  rcases h.2 with ⟨rfl, h0⟩ | ⟨g, cap, cur, rfl, _, hg, hc, _, _, htk⟩
  · exact ⟨none, 0, by rw [h0], ⟨by omega, fun i hi => by omega, fun i hi => by omega⟩⟩
  · refine ⟨some ⟨g, 0, none⟩, cap, rfl, ⟨fun _ => rfl, fun i hi => ?_, fun i hi => ?_⟩⟩
    · have := (cells_get E i _ (get_of_lt E i hi)).1
      rw [← htk, List.getElem?_take, if_pos (by omega)] at this
      exact World.news_of_block hg _ _ this
    · have := (cells_get E i _ (get_of_lt E i hi)).2
      rw [← htk, List.getElem?_take, if_pos (by omega)] at this
      exact World.news_of_block hg _ _ this

theorem own_below {w w' : World} {B : Nat} {e : TypeId} {size : Nat} {v : Value} {n : Nat} {xs : List Value} (h : w.ownsRow B e size v n xs) (hb : Below w.heap.size w w') : w'.ownsRow B e size v n xs := by
  refine ⟨h.1, ?_⟩
  rcases h.2 with h' | ⟨g, cap, cur, hv, hge, hg, hr⟩
  · exact Or.inl h'
  · exact Or.inr ⟨g, cap, cur, hv, hge, (hb.block g (Array.getElem?_eq_some_iff.1 hg).1).trans hg, hr⟩

/-- THE CLOCK's variable lies in block V and holds the tally T; its row lies from B on. -/
structure Stands (V B : Nat) (T : Nat → Nat) (w : World) : Prop where
  size : B ≤ w.heap.size
  st : ∃ s, w.heap[V]? = some (.cells #[s] 37 (0, 0)) ∧ w.ownsRow B 45 2 s (seg T 0 8).length (cells (seg T 0 8))

theorem own_far {w : World} {B : Nat} {e : TypeId} {size : Nat} {v : Value} {n : Nat} {xs : List Value} (h : w.ownsRow B e size v n xs) {b : Nat} (hb : b < B) : some b ≠ v.ownBlock := fun e => by have := (h.lt b e.symm).1; omega

set_option maxHeartbeats 2000000 in
theorem tick_new' (V B n p cap : Nat) (t : ByteArray) (ao : Option Addr) (xs : List Value) (w : World) (hB : B ≤ w.heap.size) (hV : V < B) (hs : w.heap[V]? = some (.cells #[.slice ao n cap] 37 (0, 0))) (hown : w.ownsRow B 45 2 (.slice ao n cap) n xs) (hone : ∀ u ∈ xs, u.oneCell' = true) (hp : p ≤ n) (hn : n ≤ 64)
    (hF : Calls Yba.prog 15 #[.agg #[.slice ao n cap], .string t] w fun e w' => e = .returned (.tuple #[.int .i64 p, .bool false]) ∧ Below w.heap.size w w') :
    Calls Yba.prog 12 #[.pointer (some ⟨V, 0, none⟩), .string t] w fun e w' => e = .returned (.tuple #[]) ∧ (∃ s', w'.heap[V]? = some (.cells #[s'] 37 (0, 0)) ∧ w'.ownsRow B 45 2 s' (n + 1) (ins xs p (.string t) (.int .u64 1))) ∧ B ≤ w'.heap.size ∧ Below V w w' := by
  have HF : Hid _ := hF
  clear hF
  have hcV : w.cell? ⟨V, 0, none⟩ = some (.slice ao n cap) := by rw [cell_of_row _ _ _ _ _ _ hs]; rfl
  go_enter Yba.func12, Yba.ntmps12
  go_wp2_with fail
  refine Calls.mono HF.out ?_
  rintro e w1 ⟨rfl, hb1⟩
  have hs1 := (hb1.block V (by omega)).trans hs
  have hc1 : w1.cell? ⟨V, 0, none⟩ = some (.slice ao n cap) := by rw [cell_of_row _ _ _ _ _ _ hs1]; rfl
  have hsz := hb1.size
  have hown1 := own_below hown hb1
  clear hcV hown
  go_wp2_with fail
  have hown2 := hown1.alloc (.cells #[.string t, .int .u64 1] 45)
  refine Calls.mono (insert_any B _ _ n p w1.heap.size xs (.string t) (.int .u64 1) hown2 hp (by omega) (by simp; omega) (cell_of_alloc w1 _) (fun e => by have := (hown1.lt _ e).2; omega) (ent_one _ _) hone) ?_
  rintro e w3 ⟨s', rfl, ho3, hg3⟩
  have hs3 : w3.heap[V]? = some (.cells #[.slice ao n cap] 37 (0, 0)) := by
    rw [hg3.block V (by simp; omega) (own_far hown2 hV), Below.heap_alloc _ _ _ (by omega)]; exact hs1
  have hc3 : w3.cell? ⟨V, 0, none⟩ = some (.slice ao n cap) := by rw [cell_of_row _ _ _ _ _ _ hs3]; rfl
  have hf3 : w3.frozen? ⟨V, 0, none⟩ = false := by simp [World.frozen?, hs3]
  have hsz3 := hg3.size
  simp only [World.size_alloc] at hsz3
  have HZ : Hid ((∃ s'', (w3.setCell ⟨V, 0, none⟩ s').heap[V]? = some (.cells #[s''] 37 (0, 0)) ∧ (w3.setCell ⟨V, 0, none⟩ s').ownsRow B 45 2 s'' (n + 1) (ins xs p (.string t) (.int .u64 1))) ∧ B ≤ (w3.setCell ⟨V, 0, none⟩ s').heap.size ∧ Below V w (w3.setCell ⟨V, 0, none⟩ s')) := by
    refine ⟨⟨s', by simp [World.setCell, Array.getElem?_modify, hs3], ownsRow_setCell_below ho3 (by simpa using hV) _⟩, by simp [World.setCell]; omega, ?_⟩
    exact ((((hb1.mono (show V ≤ w.heap.size by omega)).alloc (by omega) _).grown hg3 (by simp; omega) (fun b hb => by have := (hown2.lt b hb).1; omega)).setCell (Nat.le_refl _) _)
  obtain ⟨aa, cc, rfl⟩ := isSlice_of_own ho3
  clear ho3 hg3 hs3 hown2 hown1 hs1 hc1 HF
  go_wp2
  exact bodyPost_ret (v := .tuple #[]) (by simp [results, Yba.results12, go_sem]) rfl ⟨rfl, HZ.out⟩

set_option maxHeartbeats 2000000 in
theorem tick_old' (V B n p cap t g : Nat) (s : ByteArray) (xs : List Value) (w : World) (hB : B ≤ w.heap.size) (hV : V < B) (hs : w.heap[V]? = some (.cells #[.slice (some ⟨g, 0, none⟩) n cap] 37 (0, 0))) (hown : w.ownsRow B 45 2 (.slice (some ⟨g, 0, none⟩) n cap) n xs) (hp : p < n) (ht : t ≤ 4096) (hx : xs[p * 2 + 1]? = some (.int .u64 (t : Int)))
    (hF : Calls Yba.prog 15 #[.agg #[.slice (some ⟨g, 0, none⟩) n cap], .string s] w fun e w' => e = .returned (.tuple #[.int .i64 p, .bool true]) ∧ Below w.heap.size w w') :
    Calls Yba.prog 12 #[.pointer (some ⟨V, 0, none⟩), .string s] w fun e w' => e = .returned (.tuple #[]) ∧ (∃ s', w'.heap[V]? = some (.cells #[s'] 37 (0, 0)) ∧ w'.ownsRow B 45 2 s' n (xs.set (p * 2 + 1) (.int .u64 ((t : Int) + 1)))) ∧ B ≤ w'.heap.size ∧ Below V w w' := by
  have HF : Hid _ := hF
  clear hF
  have hcV : w.cell? ⟨V, 0, none⟩ = some (.slice (some ⟨g, 0, none⟩) n cap) := by rw [cell_of_row _ _ _ _ _ _ hs]; rfl
  go_enter Yba.func12, Yba.ntmps12
  go_wp2_with fail
  refine Calls.mono HF.out ?_
  rintro e w1 ⟨rfl, hb1⟩
  have hs1 := (hb1.block V (by omega)).trans hs
  have hc1 : w1.cell? ⟨V, 0, none⟩ = some (.slice (some ⟨g, 0, none⟩) n cap) := by rw [cell_of_row _ _ _ _ _ _ hs1]; rfl
  have hsz := hb1.size
  have hown1 := own_below hown hb1
  clear hcV hown
  have hgB := (hown1.lt g rfl).1
  obtain ⟨hst, hgr⟩ := hown1.stored (p * 2 + 1) (.int .u64 ((t : Int) + 1))
  go_wp2_with fail
  refine Calls.mono (tickAt17 V g n cap p t w1 hc1 hp ht (by rw [hown1.cellAt _ (by omega)]; exact hx) (hown1.frozenAt _)) ?_
  rintro e w3 ⟨rfl, rfl⟩
  have HZ : Hid ((∃ s', (w1.setCell ⟨g, p * 2 + 1, none⟩ (.int .u64 ((t : Int) + 1))).heap[V]? = some (.cells #[s'] 37 (0, 0)) ∧ (w1.setCell ⟨g, p * 2 + 1, none⟩ (.int .u64 ((t : Int) + 1))).ownsRow B 45 2 s' n (xs.set (p * 2 + 1) (.int .u64 ((t : Int) + 1)))) ∧ B ≤ (w1.setCell ⟨g, p * 2 + 1, none⟩ (.int .u64 ((t : Int) + 1))).heap.size ∧ Below V w (w1.setCell ⟨g, p * 2 + 1, none⟩ (.int .u64 ((t : Int) + 1)))) := by
    refine ⟨⟨_, ?_, hst⟩, by simp [World.setCell]; omega, (hb1.mono (by omega)).setCell (by simp; omega) _⟩
    rw [Below.heap_setCell _ _ _ _ (by simp; omega)]; exact hs1
  clear hst hgr hown1 hs1 hc1 HF
  go_wp2
  go_end0
  exact ⟨rfl, HZ.out⟩

theorem cells_set (E F : List (Nat × Nat)) (c t u : Nat) : (cells (E ++ ([(c, t)] ++ F))).set (E.length * 2 + 1) (.int .u64 ((u : Nat) : Int)) = cells (E ++ ([(c, u)] ++ F)) := by
  rw [cells_append, cells_append, cells_append, cells_append, List.set_append_right _ _ (by rw [cells_len]; omega), cells_len]
  simp [cells]

theorem tick_new (V B c : Nat) (T : Nat → Nat) (w : World) (hS : Stands V B T w) (hV : V < B) (hc : c < 8) (h0 : T c = 0) :
    Calls Yba.prog 12 #[.pointer (some ⟨V, 0, none⟩), .string (nm c)] w fun e w' => e = .returned (.tuple #[]) ∧ Stands V B (bump T c) w' ∧ Below V w w' := by
  obtain ⟨hB, s, hs, hown⟩ := hS
  obtain ⟨ao, cap, rfl, hE⟩ := ents_of_cells hown
  obtain ⟨hp, hlo, hhi⟩ := place T c hc
  have hlen := seg_len T 0 8
  have hdec : decide ((seg T 0 c).length < (seg T 0 8).length ∧ let_ (seg T 0 8) (seg T 0 c).length = c) = false := by
    simp only [decide_eq_false_iff_not, not_and]
    exact fun h => found_no T c hc h0 h
  have HF := find15 ao (seg T 0 8).length cap c (seg T 0 c).length _ _ w hE (by omega) (fun i hi => let_lt T i hi) hc hp hlo hhi
  rw [hdec] at HF
  refine (tick_new' V B _ _ cap (nm c) ao _ w hB hV hs hown (cells_one _) hp (by omega) HF).mono ?_
  rintro e w' ⟨rfl, ⟨s', h1, h2⟩, h3, h4⟩
  refine ⟨rfl, ⟨h3, s', h1, ?_⟩, h4⟩
  have hpart := seg_part T c hc
  rw [seg_one_none h0, List.nil_append] at hpart
  have e1 : cells (seg (bump T c) 0 8) = ins (cells (seg T 0 8)) (seg T 0 c).length (.string (nm c)) (.int .u64 1) := by
    rw [bump_new T c hc h0, ins, hpart, cells_take, cells_drop, cells_append, cells_append, ← List.append_assoc]; rfl
  have e2 : (seg (bump T c) 0 8).length = (seg T 0 8).length + 1 := by rw [bump_new T c hc h0, hpart]; simp; omega
  rw [e1, e2]; exact h2

theorem tick_old (V B c : Nat) (T : Nat → Nat) (w : World) (hS : Stands V B T w) (hV : V < B) (hc : c < 8) (h0 : T c ≠ 0) (ht : T c ≤ 4096) :
    Calls Yba.prog 12 #[.pointer (some ⟨V, 0, none⟩), .string (nm c)] w fun e w' => e = .returned (.tuple #[]) ∧ Stands V B (bump T c) w' ∧ Below V w w' := by
  obtain ⟨hB, s, hs, hown⟩ := hS
  obtain ⟨ao, cap, hv, hE⟩ := ents_of_cells hown
  obtain ⟨hp, hlo, hhi⟩ := place T c hc
  have hlen := seg_len T 0 8
  have hf := found_yes T c hc h0
  have hlt : (seg T 0 c).length < (seg T 0 8).length := (List.getElem?_eq_some_iff.1 hf).1
  have hdec : decide ((seg T 0 c).length < (seg T 0 8).length ∧ let_ (seg T 0 8) (seg T 0 c).length = c) = true := by
    simp only [decide_eq_true_eq]
    refine ⟨hlt, ?_⟩
    rw [get_of_lt _ _ hlt] at hf
    simp only [Option.some.injEq, Prod.mk.injEq] at hf
    exact hf.1
  have HF := find15 ao (seg T 0 8).length cap c (seg T 0 c).length _ _ w hE (by omega) (fun i hi => let_lt T i hi) hc hp hlo hhi
  rw [hdec] at HF
  obtain ⟨g, rfl⟩ : ∃ g, s = .slice (some ⟨g, 0, none⟩) (seg T 0 8).length cap := by
    rcases hown.2 with ⟨_, h⟩ | ⟨g, cap', cur, h, _⟩
    · omega
    · rw [hv] at h
      simp only [Value.slice.injEq, true_and] at h
      exact ⟨g, by rw [hv, h.1]⟩
  simp only [Value.slice.injEq, and_true] at hv
  subst hv
  refine (tick_old' V B _ _ cap (T c) g (nm c) _ w hB hV hs hown hlt ht (cells_get _ _ _ hf).2 HF).mono ?_
  rintro e w' ⟨rfl, ⟨s', h1, h2⟩, h3, h4⟩
  refine ⟨rfl, ⟨h3, s', h1, ?_⟩, h4⟩
  have hpart := seg_part T c hc
  rw [seg_one_some h0] at hpart
  have e1 : (cells (seg T 0 8)).set ((seg T 0 c).length * 2 + 1) (.int .u64 ((T c : Int) + 1)) = cells (seg (bump T c) 0 8) := by
    rw [bump_old T c hc, hpart, show ((T c : Int) + 1) = ((T c + 1 : Nat) : Int) by simp]
    exact cells_set _ _ c (T c) (T c + 1)
  have e2 : (seg (bump T c) 0 8).length = (seg T 0 8).length := by rw [bump_old T c hc, hpart]; simp
  rw [← e1, e2]; exact h2

/-- THE CALL 'v.Tick(name)'. -/
theorem tick12 (V B c : Nat) (T : Nat → Nat) (w : World) (hS : Stands V B T w) (hV : V < B) (hc : c < 8) (ht : T c ≤ 4096) :
    Calls Yba.prog 12 #[.pointer (some ⟨V, 0, none⟩), .string (nm c)] w fun e w' => e = .returned (.tuple #[]) ∧ Stands V B (bump T c) w' ∧ Below V w w' := by
  by_cases h0 : T c = 0
  · exact tick_new V B c T w hS hV hc h0
  · exact tick_old V B c T w hS hV hc h0 ht
end Go.Proofs.Ybulkcosq.Tick

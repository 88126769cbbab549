/- OUR OWN TEXT. slices.Insert at []vectorEntry (16), one value inserted, which lies in a block of its own: contracts. (After the kit's own contracts at []string, Derived/Shelf/Spec/SlicesInsert.lean, SlicesInsertGrow.lean: an element is two cells here.) -/
import Derived.Test.YbulkcosqClock
import Derived.Laws.CopyRow
import Derived.Lib.AppendZerosOnto
import Derived.Lib.Overlaps
import Derived.Laws.Externs
import Derived.Deep.RegionLaw
namespace Go.Proofs.Ybulkcosq.Clock
open Go.RowKit Go.Proofs.Ybulkcosq.Own

/-- 'copy' where an element is two cells: the row behind it. -/
theorem run_copy2 {P : Program} (w : World) (dT sT ty elem : TypeId) (g o dLen dCap : Nat) (a : Addr) (sLen sCap m : Nat) (L : List Value) (t : TypeId) (cs : List Value)
    (hu : P.underlying dT = some (.slice elem)) (hs : (P.info? elem).map (·.size) = some 2)
    (hg : w.heap[g]? = some (.cells L.toArray t (0, 0))) (hm : Nat.min sLen dLen = m) (hn : cs.length = m * 2)
    (hsrc : ∀ j v, cs[j]? = some v → w.cell? (a.add j) = some v) (hfit : o + cs.length ≤ L.length) (h1 : ∀ v ∈ cs, v.oneCell' = true) :
    (Builtin.copy_ #[dT, sT] ty #[.slice (some ⟨g, o, none⟩) dLen dCap, .slice (some a) sLen sCap]).run P w =
      .ok (goInt (m : Int)) (w.setRow g (L.take o ++ cs ++ L.drop (o + cs.length)).toArray) := by
  have hl := run_loadCells_list (P := P) w a cs hsrc
  have hst := run_storeCells_at P g o t cs 0 L.toArray w hg (by simpa using hfit) h1
  cases hq : P.info? elem with
  | none => simp [hq] at hs
  | some i =>
    have hi : i.size = 2 := by simpa [hq] using hs
    rw [hn] at hl
    simp [Builtin.copy_, run_underlying hu, Builtin.lenOf, Builtin.firstCells, sizeOf, typeInfo, hq, hi, hm, hl, hst]

theorem addr_add (g o j : Nat) : (⟨g, o, none⟩ : Addr).add j = ⟨g, o + j, none⟩ := by unfold Addr.add; split <;> simp_all

theorem cell_of_list {w : World} {g : Nat} {L : List Value} {t : TypeId} {fr : Nat × Nat} (h : w.heap[g]? = some (.cells L.toArray t fr)) (j : Nat) : w.cell? ⟨g, j, none⟩ = L[j]? := by
  rw [cell_of_row _ _ _ _ _ _ h]; simp

theorem isize45 : (Yba.prog.info? 45).map (·.size) = some 2 := by kernel_rfl

/-- The row that stands at the end: what stood ahead of i, the new element, what stood from i on. -/
def ins (xs : List Value) (i : Nat) (x y : Value) : List Value := xs.take (i * 2) ++ [x, y] ++ xs.drop (i * 2)

theorem ins_len (xs : List Value) (n i : Nat) (x y : Value) (h : xs.length = n * 2) (hi : i ≤ n) : (ins xs i x y).length = (n + 1) * 2 := by
  simp [ins, h]; omega

/-- In place: the two copies one behind the other. -/
theorem shift_row (L xs : List Value) (n i : Nat) (x y : Value) (hL : (n + 1) * 2 ≤ L.length) (ht : L.take (n * 2) = xs) (hx : xs.length = n * 2) (hi : i < n) :
    let L1 := L.take ((i + 1) * 2) ++ xs.drop (i * 2) ++ L.drop ((i + 1) * 2 + (xs.drop (i * 2)).length)
    let L2 := L1.take (i * 2) ++ [x, y] ++ L1.drop (i * 2 + 2)
    L1.length = L.length ∧ L2.length = L.length ∧ L2.take ((n + 1) * 2) = ins xs i x y := by
  intro L1 L2
  have hd : (xs.drop (i * 2)).length = n * 2 - i * 2 := by rw [List.length_drop, hx]
  have hL1 : L1.length = L.length := by simp only [L1, List.length_append, List.length_take, List.length_drop, hd]; omega
  have hL2 : L2.length = L.length := by simp only [L2, List.length_append, List.length_take, List.length_drop, List.length_cons, List.length_nil, hL1]; omega
  refine ⟨hL1, hL2, ?_⟩
  have e1 : L1.take (i * 2) = xs.take (i * 2) := by
    rw [← ht]
    simp only [L1, List.append_assoc]
    rw [List.take_append_of_le_length (by rw [List.length_take]; omega), List.take_take, List.take_take]
    congr 1; omega
  have e2 : L1.drop (i * 2 + 2) = xs.drop (i * 2) ++ L.drop ((i + 1) * 2 + (xs.drop (i * 2)).length) := by
    simp only [L1, List.append_assoc]
    have hl : (L.take ((i + 1) * 2)).length = i * 2 + 2 := by rw [List.length_take]; omega
    rw [List.drop_append_of_le_length (by omega), ← hl, List.drop_length]; simp
  show (L1.take (i * 2) ++ [x, y] ++ L1.drop (i * 2 + 2)).take ((n + 1) * 2) = _
  rw [e1, e2, ← List.append_assoc]
  rw [List.take_append_of_le_length (by simp [hx]; omega), List.take_of_length_le (by simp [hx]; omega)]
  rfl

/-- In a new row: the two copies one behind the other. -/
theorem grow_row (R xs : List Value) (n i : Nat) (x y : Value) (hR : (n + 1) * 2 ≤ R.length) (ht : R.take (i * 2) = xs.take (i * 2)) (hx : xs.length = n * 2) (hi : i < n) :
    let R1 := R.take (i * 2) ++ [x, y] ++ R.drop (i * 2 + [x, y].length)
    let R2 := R1.take ((i + 1) * 2) ++ xs.drop (i * 2) ++ R1.drop ((i + 1) * 2 + (xs.drop (i * 2)).length)
    R1.length = R.length ∧ R2.length = R.length ∧ R2.take ((n + 1) * 2) = ins xs i x y := by
  intro R1 R2
  have hd : (xs.drop (i * 2)).length = n * 2 - i * 2 := by rw [List.length_drop, hx]
  have hR1 : R1.length = R.length := by simp only [R1, List.length_append, List.length_take, List.length_drop, List.length_cons, List.length_nil]; omega
  have hR2 : R2.length = R.length := by simp only [R2, List.length_append, List.length_take, List.length_drop, hR1, hd]; omega
  refine ⟨hR1, hR2, ?_⟩
  have e1 : R1.take ((i + 1) * 2) = xs.take (i * 2) ++ [x, y] := by
    have hl : (R.take (i * 2) ++ [x, y]).length = (i + 1) * 2 := by simp only [List.length_append, List.length_take, List.length_cons, List.length_nil]; omega
    show (R.take (i * 2) ++ [x, y] ++ R.drop (i * 2 + [x, y].length)).take ((i + 1) * 2) = _
    rw [List.take_append_of_le_length (by omega), List.take_of_length_le (by omega), ht]
  show (R1.take ((i + 1) * 2) ++ xs.drop (i * 2) ++ R1.drop ((i + 1) * 2 + (xs.drop (i * 2)).length)).take ((n + 1) * 2) = _
  rw [e1, List.take_append_of_le_length (by simp [hx]; omega), List.take_of_length_le (by simp [hx]; omega)]
  rfl

set_option maxHeartbeats 2000000 in
/-- At the end. -/
theorem insert_end (B : Nat) (w : World) (s : Value) (n vb : Nat) (xs : List Value) (x y : Value) (hown : w.ownsRow B 45 2 s n xs) (hn : n ≤ 4096) (hv : w.heap[vb]? = some (.cells #[x, y] 45 (0, 0))) (hB : B ≤ w.heap.size)
    (h1 : ∀ u ∈ [x, y], u.oneCell' = true) :
    Calls Yba.prog 16 #[s, .int .i64 n, .slice (some ⟨vb, 0, none⟩) 1 1] w fun e w' => ∃ s', e = .returned s' ∧ w'.ownsRow B 45 2 s' (n + 1) (xs ++ [x, y]) ∧ w.grownBy w' s.ownBlock := by
  obtain ⟨i0, hi, hz0, hz1, hz2⟩ := info_parts info45
  have hnews : ∀ j u, [x, y][j]? = some u → w.cell? ((⟨vb, 0, none⟩ : Addr).add j) = some u := World.news_of_block hv
  rcases hown.2 with ⟨hs, hn0⟩ | ⟨g, cap, cur, hs, hge, hg, hnc, hcm, hsz, htk⟩
  · subst hs
    subst hn0
    go_enter Yba.func16, Yba.ntmps16
    go_wp2_with (at_builtin; refine wpList_append_lies _ (by rfl) (.tmp 23) (.tmp 24) 35 (by rfl) B 45 i0 (.agg #[.string ⟨#[]⟩, .int .u64 0]) 2 24 Yba.underlying35 hi hz0 hz1 hz2 rfl (by omega) _ _ xs (by rfl) hown ⟨vb, 0, none⟩ 1 1 [x, y] (by rfl) (by rfl) hnews h1 (by omega) (by unfold maxLen; omega) (by omega) hB _ rfl ?_; intro g cap w1 hown1 hgrow hat hlt)
    go_ret
    exact ⟨_, rfl, hown1, hgrow⟩
  · subst hs
    unfold maxLen at hcm
    go_enter Yba.func16, Yba.ntmps16
    go_wp2_with (at_builtin; refine wpList_append_lies _ (by rfl) (.tmp 23) (.tmp 24) 35 (by rfl) B 45 i0 (.agg #[.string ⟨#[]⟩, .int .u64 0]) 2 24 Yba.underlying35 hi hz0 hz1 hz2 rfl (by omega) _ _ xs (by rfl) hown ⟨vb, 0, none⟩ 1 1 [x, y] (by rfl) (by rfl) hnews h1 (by omega) (by unfold maxLen; omega) (by omega) hB _ rfl ?_; intro g' cap' w1 hown1 hgrow hat hlt)
    all_goals (go_ret; exact ⟨_, rfl, hown1, hgrow⟩)

theorem over21 (w : World) (vb g n i c : Nat) (cur : Array Value) (x y : Value) (hv : w.heap[vb]? = some (.cells #[x, y] 45 (0, 0))) (hg : w.heap[g]? = some (.cells cur 45 (0, 0))) (hne : vb ≠ g) (h0 : cur.size ≠ 0) :
    (callFunc 21 #[.slice (some ⟨vb, 0, none⟩) 1 1, .slice (some ⟨g, i, none⟩) n c]).run Yba.prog w = .ok (.value (.bool false)) w := by
  rw [run_callFunc_extern Yba.func21 (by kernel_rfl) (by kernel_rfl) (by kernel_rfl) (e := Extern.SlicesOverlaps.overlaps #[35, 35] #[4]) (by kernel_rfl),
    Lib.run_overlaps_apart w 35 4 45 Yba.underlying35 2 size45 ⟨vb, 0, none⟩ ⟨g, i, none⟩ 1 1 n c hne 45 45 2 cur.size (by simp [World.shape?, hv]) (by simp [World.shape?, hg]) h0 (by simp [World.frozen?, hv]) (by simp [World.frozen?, hv])]
  rfl

set_option maxHeartbeats 2000000 in
/-- In the midst, there is room: in place. -/
theorem insert_shift (B : Nat) (w : World) (g n c i vb : Nat) (L xs : List Value) (x y : Value) (hBg : B ≤ g) (hg : w.heap[g]? = some (.cells L.toArray 45 (0, 0))) (hL : L.length = c * 2) (ht : L.take (n * 2) = xs) (hx : xs.length = n * 2) (hi : i < n) (hroom : n + 1 ≤ c) (hc : c ≤ maxLen) (hn : n ≤ 4096)
    (hv : w.heap[vb]? = some (.cells #[x, y] 45 (0, 0))) (hne : vb ≠ g) (h1 : ∀ u ∈ [x, y], u.oneCell' = true) (h1x : ∀ u ∈ xs, u.oneCell' = true) :
    Calls Yba.prog 16 #[.slice (some ⟨g, 0, none⟩) n c, .int .i64 i, .slice (some ⟨vb, 0, none⟩) 1 1] w fun e w' => ∃ s', e = .returned s' ∧ w'.ownsRow B 45 2 s' (n + 1) (ins xs i x y) ∧ w.grownBy w' (some g) := by
  obtain ⟨r1, r2, r3⟩ := shift_row L xs n i x y (by omega) ht hx hi
  have hov := fun (o nn cc : Nat) => over21 w vb g nn o cc L.toArray x y hv hg hne (by simp only [List.size_toArray]; omega)
  have hdl : (xs.drop (i * 2)).length = n * 2 - i * 2 := by rw [List.length_drop, hx]
  unfold maxLen at hc
  generalize hL1 : L.take ((i + 1) * 2) ++ xs.drop (i * 2) ++ L.drop ((i + 1) * 2 + (xs.drop (i * 2)).length) = L1 at *
  have hcp1 : ∀ dc sc, (Builtin.copy_ #[35, 35] 3 #[.slice (some ⟨g, (i + 1) * 2, none⟩) (n - i) dc, .slice (some ⟨g, i * 2, none⟩) (n + 1 - i) sc]).run Yba.prog w.drew = .ok (goInt ((n - i : Nat) : Int)) (w.drew.setRow g L1.toArray) := fun dc sc => by
    have := run_copy2 (P := Yba.prog) w.drew 35 35 3 45 g ((i + 1) * 2) (n - i) dc ⟨g, i * 2, none⟩ (n + 1 - i) sc (n - i) L 45 (xs.drop (i * 2)) Yba.underlying35 isize45 hg (by simp only [Nat.min_def]; split <;> omega) (by rw [hdl]; omega)
      (fun j v hj => by
        rw [addr_add]
        show w.cell? _ = _
        rw [cell_of_list hg]
        rw [List.getElem?_drop, ← ht, List.getElem?_take] at hj
        split at hj
        · exact hj
        · cases hj)
      (by rw [hdl]; omega) (fun v hv => h1x v (List.mem_of_mem_drop hv))
    rw [hL1] at this
    exact this
  have hg1 : (w.drew.setRow g L1.toArray).heap[g]? = some (.cells L1.toArray 45 (0, 0)) := setRow_heap _ _ _ _ _ _ hg
  have hv1 : (w.drew.setRow g L1.toArray).heap[vb]? = some (.cells #[x, y] 45 (0, 0)) := (setRow_other _ _ _ _ hne).trans hv
  generalize hL2 : L1.take (i * 2) ++ [x, y] ++ L1.drop (i * 2 + 2) = L2 at *
  obtain ⟨w1, hw1⟩ : ∃ w1, w1 = w.drew.setRow g L1.toArray := ⟨_, rfl⟩
  rw [← hw1] at hcp1 hg1 hv1
  have hcp2 : ∀ dc, (Builtin.copy_ #[35, 35] 3 #[.slice (some ⟨g, i * 2, none⟩) (n + 1 - i) dc, .slice (some ⟨vb, 0, none⟩) 1 1]).run Yba.prog w1 = .ok (goInt ((1 : Nat) : Int)) (w1.setRow g L2.toArray) := fun dc => by
    have := run_copy2 (P := Yba.prog) w1 35 35 3 45 g (i * 2) (n + 1 - i) dc ⟨vb, 0, none⟩ 1 1 1 L1 45 [x, y] Yba.underlying35 isize45 hg1 (by simp only [Nat.min_def]; split <;> omega) rfl (World.news_of_block hv1) (by rw [r1]; simp; omega) h1
    have e : L1.take (i * 2) ++ [x, y] ++ L1.drop (i * 2 + [x, y].length) = L2 := hL2
    rw [e] at this
    exact this
  have hend : (w1.setRow g L2.toArray).ownsRow B 45 2 (.slice (some ⟨g, 0, none⟩) (n + 1) c) (n + 1) (ins xs i x y) :=
    ⟨ins_len xs n i x y hx (by omega), Or.inr ⟨g, c, L2.toArray, rfl, hBg, setRow_heap _ _ _ _ _ _ hg1, hroom, by unfold maxLen; omega, by simp [r2, hL], by simpa using r3⟩⟩
  have hgrow : w.grownBy (w1.setRow g L2.toArray) (some g) := by
    rw [hw1]
    exact ⟨rfl, rfl, rfl, by simp, fun k hk hne => by
      rw [setRow_other _ _ _ _ (fun e => hne (by rw [e])), setRow_other _ _ _ _ (fun e => hne (by rw [e]))]; rfl⟩
  have hz1 : ¬ ((i : Int) = (n : Int)) := by omega
  have hb2 : ¬ (c = i + 1) := by omega
  have hb4 : ¬ (c = i) := by omega
  have hin : i ≤ n := by omega
  have hb1 : (0 : Int) ≤ (i : Int) + 1 := by omega
  have hb3 : (i : Int) + 1 ≤ (n : Int) + 1 := by omega
  have HW : Hid (w1 = w.drew.setRow g L1.toArray) := hw1
  have HE : Hid ((w1.setRow g L2.toArray).ownsRow B 45 2 (.slice (some ⟨g, 0, none⟩) (n + 1) c) (n + 1) (ins xs i x y) ∧ w.grownBy (w1.setRow g L2.toArray) (some g)) := ⟨hend, hgrow⟩
  clear hw1 hend hgrow hL1 hL2 r1 r2 r3 hg1 hv1 hdl hx h1x h1 hg hv ht hL
  go_enter Yba.func16, Yba.ntmps16
  go_wp2_with fail
  go_region
  go_wp2
  go_ret
  exact ⟨_, rfl, HE.out.1, HE.out.2⟩

set_option maxHeartbeats 2000000 in
/-- In the midst, no room: a new row. -/
theorem insert_grow (B : Nat) (w : World) (g n c i vb : Nat) (L xs : List Value) (x y : Value) (hB : B ≤ w.heap.size) (hg : w.heap[g]? = some (.cells L.toArray 45 (0, 0))) (ht : L.take (n * 2) = xs) (hx : xs.length = n * 2) (hi : i < n) (hnc : n ≤ c) (hroom : c < n + 1) (hn : n ≤ 4096)
    (hv : w.heap[vb]? = some (.cells #[x, y] 45 (0, 0))) (h1 : ∀ u ∈ [x, y], u.oneCell' = true) (h1x : ∀ u ∈ xs, u.oneCell' = true) :
    Calls Yba.prog 16 #[.slice (some ⟨g, 0, none⟩) n c, .int .i64 i, .slice (some ⟨vb, 0, none⟩) 1 1] w fun e w' => ∃ s', e = .returned s' ∧ w'.ownsRow B 45 2 s' (n + 1) (ins xs i x y) ∧ w.grownBy w' (some g) := by
  obtain ⟨i0, hi0, hz0, hzs, hzb⟩ := info_parts info45
  have hgw := (Array.getElem?_eq_some_iff.1 hg).1
  have hvw := (Array.getElem?_eq_some_iff.1 hv).1
  have hdl : (xs.drop (i * 2)).length = n * 2 - i * 2 := by rw [List.length_drop, hx]
  have hold : (Builtin.firstCells i0.size i (.slice (some ⟨g, 0, none⟩) i c)).run Yba.prog w.drew = .ok (xs.take (i * 2)).toArray w.drew := by
    rw [hzs]
    exact run_firstCells_some w.drew 2 i ⟨g, 0, none⟩ i c (xs.take (i * 2)) (by rw [List.length_take]; omega) (fun j v hj => by
      rw [addr_add, Nat.zero_add]
      show w.cell? _ = _
      rw [cell_of_list hg]
      rw [List.getElem?_take] at hj
      split at hj
      · rw [← ht, List.getElem?_take] at hj
        split at hj
        · exact hj
        · cases hj
      · cases hj)
  have hik : i + (n + 1 - i) = n + 1 := by omega
  have hkk : (n : Int) + 1 - (i : Int) = ((n + 1 - i : Nat) : Int) := by omega
  obtain ⟨R, hR, hRt, hRl⟩ : ∃ R : List Value, R.toArray = (xs.take (i * 2)).toArray ++ Builtin.zeroCells (Value.agg #[.string ⟨#[]⟩, .int .u64 0]).cells (n + 1 - i) ++ Builtin.zeroCells (Value.agg #[.string ⟨#[]⟩, .int .u64 0]).cells (grownCap w (n + 1) c 45 - (n + 1)) ∧
      R.take (i * 2) = xs.take (i * 2) ∧ R.length = (grownCap w (n + 1) c 45) * 2 := by
    have hge := grownCap_ge w (n + 1) c 45
    refine ⟨((xs.take (i * 2)).toArray ++ Builtin.zeroCells (Value.agg #[.string ⟨#[]⟩, .int .u64 0]).cells (n + 1 - i) ++ Builtin.zeroCells (Value.agg #[.string ⟨#[]⟩, .int .u64 0]).cells (grownCap w (n + 1) c 45 - (n + 1))).toList, by simp, ?_, ?_⟩
    · simp only [Array.toList_append, List.append_assoc]
      have hl : (xs.take (i * 2)).length = i * 2 := by rw [List.length_take]; omega
      rw [List.take_append_of_le_length (by simp; omega), List.take_of_length_le (by simp; omega)]
    · simp [Builtin.zeroCells, Value.cells, hx]; omega
  obtain ⟨G, hG⟩ : ∃ G, G = grownCap w (n + 1) c 45 := ⟨_, rfl⟩
  have hGge : n + 1 ≤ G := by rw [hG]; exact grownCap_ge w _ _ _
  have hGm : G ≤ maxLen := by rw [hG]; exact grownCap_le_maxLen w (n + 1) c 45 (by unfold maxLen; omega)
  have hrz : (Builtin.append_ #[35, 3] 35 #[.slice (some ⟨g, 0, none⟩) i c, .int .i64 ((n : Int) + 1 - (i : Int))]).run Yba.prog w = .ok (.slice (some ⟨w.heap.size, 0, none⟩) (n + 1) G) (w.drew.alloc (.cells R.toArray 45)) := by
    have h := Lib.run_append_grow_zeros w 35 3 35 45 i0 _ .i64 .i64 Yba.underlying35 Yba.underlying3 hi0 hz0 (some ⟨g, 0, none⟩) i c (xs.take (i * 2)) hold (n + 1 - i) (by omega) (by omega) (by omega) (by omega) (by rw [hzb]; omega) (by rw [hzb, hik]; exact growslice_fits hroom (by omega))
    rw [hik, ← hR, ← hG] at h
    rw [hkk]
    exact h
  rw [← hG] at hRl
  obtain ⟨r1, r2, r3⟩ := grow_row R xs n i x y (by omega) hRt hx hi
  generalize hR1 : R.take (i * 2) ++ [x, y] ++ R.drop (i * 2 + [x, y].length) = R1 at *
  generalize hR2 : R1.take ((i + 1) * 2) ++ xs.drop (i * 2) ++ R1.drop ((i + 1) * 2 + (xs.drop (i * 2)).length) = R2 at *
  obtain ⟨w1, hw1⟩ : ∃ w1, w1 = w.drew.alloc (.cells R.toArray 45) := ⟨_, rfl⟩
  have hN : w1.heap[w.heap.size]? = some (.cells R.toArray 45 (0, 0)) := by rw [hw1]; exact cell_of_alloc w.drew _
  have hold1 : ∀ k : Nat, k < w.heap.size → w1.heap[k]? = w.heap[k]? := fun k hk => by rw [hw1]; exact Below.heap_alloc w.drew _ _ hk
  have hcpA : ∀ dc, (Builtin.copy_ #[35, 35] 3 #[.slice (some ⟨w.heap.size, i * 2, none⟩) (n + 1 - i) dc, .slice (some ⟨vb, 0, none⟩) 1 1]).run Yba.prog w1 = .ok (goInt ((1 : Nat) : Int)) (w1.setRow w.heap.size R1.toArray) := fun dc => by
    have := run_copy2 (P := Yba.prog) w1 35 35 3 45 w.heap.size (i * 2) (n + 1 - i) dc ⟨vb, 0, none⟩ 1 1 1 R 45 [x, y] Yba.underlying35 isize45 hN (by simp only [Nat.min_def]; split <;> omega) rfl (World.news_of_block ((hold1 vb hvw).trans hv)) (by rw [hRl]; simp; omega) h1
    rw [hR1] at this
    exact this
  obtain ⟨w2, hw2⟩ : ∃ w2, w2 = w1.setRow w.heap.size R1.toArray := ⟨_, rfl⟩
  have hN2 : w2.heap[w.heap.size]? = some (.cells R1.toArray 45 (0, 0)) := by rw [hw2]; exact setRow_heap _ _ _ _ _ _ hN
  have hg2 : w2.heap[g]? = some (.cells L.toArray 45 (0, 0)) := by rw [hw2, setRow_other _ _ _ _ (by omega), hold1 g hgw]; exact hg
  have hcpB : ∀ dc sc, (Builtin.copy_ #[35, 35] 3 #[.slice (some ⟨w.heap.size, (i + 1) * 2, none⟩) (n - i) dc, .slice (some ⟨g, i * 2, none⟩) (n - i) sc]).run Yba.prog w2.drew = .ok (goInt ((n - i : Nat) : Int)) (w2.drew.setRow w.heap.size R2.toArray) := fun dc sc => by
    have := run_copy2 (P := Yba.prog) w2.drew 35 35 3 45 w.heap.size ((i + 1) * 2) (n - i) dc ⟨g, i * 2, none⟩ (n - i) sc (n - i) R1 45 (xs.drop (i * 2)) Yba.underlying35 isize45 hN2 (Nat.min_self _) (by rw [hdl]; omega)
      (fun j v hj => by
        rw [addr_add]
        show w2.cell? _ = _
        rw [cell_of_list hg2]
        rw [List.getElem?_drop, ← ht, List.getElem?_take] at hj
        split at hj
        · exact hj
        · cases hj)
      (by rw [hdl, r1, hRl]; omega) (fun v hv => h1x v (List.mem_of_mem_drop hv))
    rw [hR2] at this
    exact this
  have hend : (w2.drew.setRow w.heap.size R2.toArray).ownsRow B 45 2 (.slice (some ⟨w.heap.size, 0, none⟩) (n + 1) G) (n + 1) (ins xs i x y) :=
    ⟨ins_len xs n i x y hx (by omega), Or.inr ⟨w.heap.size, G, R2.toArray, rfl, hB, setRow_heap _ _ _ _ _ _ hN2, hGge, hGm, by simp [r2, hRl], by simpa using r3⟩⟩
  have hgrow : w.grownBy (w2.drew.setRow w.heap.size R2.toArray) (some g) := by
    refine ⟨by rw [hw2, hw1]; rfl, by rw [hw2, hw1]; rfl, by rw [hw2, hw1]; rfl, by rw [hw2, hw1]; simp, fun k hk _ => ?_⟩
    rw [setRow_other _ _ _ _ (by omega)]
    show w2.heap[k]? = _
    rw [hw2, setRow_other _ _ _ _ (by omega), hold1 k hk]
  have hz1 : ¬ ((i : Int) = (n : Int)) := by omega
  have hin : i ≤ n := by omega
  have hGi : ¬ (G = i) := by omega
  have hGim : ¬ (G = i + 1) := by omega
  have hci : ¬ (c = i) := by omega
  have hz3 : (c : Int) < (n : Int) + 1 := by omega
  have HE : Hid ((w2.drew.setRow w.heap.size R2.toArray).ownsRow B 45 2 (.slice (some ⟨w.heap.size, 0, none⟩) (n + 1) G) (n + 1) (ins xs i x y) ∧ w.grownBy (w2.drew.setRow w.heap.size R2.toArray) (some g)) := ⟨hend, hgrow⟩
  unfold maxLen at hGm
  rw [← hw1] at hrz
  rw [← hw2] at hcpA
  clear hw1 hw2 hend hgrow hR1 hR2 r1 r2 r3 hN hN2 hg2 hold1 hdl hx h1x h1 hg hv ht hRl hRt hR hold hG hkk hik
  go_enter Yba.func16, Yba.ntmps16
  go_wp2_with (at_builtin; refine Lib.wpList_append_run _ rfl _ _ _ _ rfl _ _ rfl rfl _ _ hrz ?_)
  go_region
  go_wp2
  go_ret
  exact ⟨_, rfl, HE.out.1, HE.out.2⟩

/-- slices.Insert of one entry at i ≤ len(s), s nil or a row of the call's own. -/
theorem insert_any (B : Nat) (w : World) (s : Value) (n i vb : Nat) (xs : List Value) (x y : Value) (hown : w.ownsRow B 45 2 s n xs) (hi : i ≤ n) (hn : n ≤ 4096) (hB : B ≤ w.heap.size) (hv : w.heap[vb]? = some (.cells #[x, y] 45 (0, 0))) (hvs : s.ownBlock ≠ some vb)
    (h1 : ∀ u ∈ [x, y], u.oneCell' = true) (h1x : ∀ u ∈ xs, u.oneCell' = true) :
    Calls Yba.prog 16 #[s, .int .i64 i, .slice (some ⟨vb, 0, none⟩) 1 1] w fun e w' => ∃ s', e = .returned s' ∧ w'.ownsRow B 45 2 s' (n + 1) (ins xs i x y) ∧ w.grownBy w' s.ownBlock := by
  by_cases hin : i = n
  · subst hin
    refine (insert_end B w s i vb xs x y hown hn hv hB h1).mono ?_
    rintro e w' ⟨s', rfl, ho, hg⟩
    have : ins xs i x y = xs ++ [x, y] := by
      have hl := hown.1
      simp [ins, List.take_of_length_le (Nat.le_of_eq hl), List.drop_eq_nil_of_le (Nat.le_of_eq hl)]
    exact ⟨s', rfl, by rw [this]; exact ho, hg⟩
  · rcases hown.2 with ⟨_, h0⟩ | ⟨g, cap, cur, rfl, hge, hg, hnc, hcm, hsz, htk⟩
    · omega
    · have hg' : w.heap[g]? = some (.cells cur.toList.toArray 45 (0, 0)) := by simpa using hg
      have hL : cur.toList.length = cap * 2 := by simpa using hsz
      by_cases hroom : n + 1 ≤ cap
      · exact insert_shift B w g n cap i vb cur.toList xs x y hge hg' hL htk hown.1 (by omega) hroom hcm hn hv (fun e => hvs (by rw [e]; rfl)) h1 h1x
      · exact insert_grow B w g n cap i vb cur.toList xs x y hB hg' htk hown.1 (by omega) hnc (by omega) hn hv h1 h1x
end Go.Proofs.Ybulkcosq.Clock

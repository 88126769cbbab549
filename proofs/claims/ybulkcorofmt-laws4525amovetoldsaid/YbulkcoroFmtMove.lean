/- OUR OWN TEXT. (Config).move (4) by its contracts. -/
import Derived.Test.YbulkcoroFmtCallees
import Derived.Deep.RegionHeld3
namespace Go.Proofs.YbulkcoroFmt.Move
open Go.RowKit Go.Maps Go.ChangeMaps
open Go.Extern.Stop Go.Stop Go.Extern

/-- WHAT A REFUSAL LEAVES: the zero Config, a *RefusedError whose Op is move. -/
def Refused (w : World) (e : Ending) (w' : World) : Prop := ∃ E s, e = .returned (.tuple #[.agg #[.int .i64 0, .slice none 0 0, .map none], .iface 35 (.pointer (some ⟨E, 0, none⟩))]) ∧ w.heap.size ≤ E ∧ w'.heap[E]? = some (.cells #[.string ⟨#[109, 111, 118, 101]⟩, .string s] 38 (0, 0)) ∧ Below w.heap.size w w'

/-- Four new blocks and a draw. -/
theorem four_new (w : World) (o1 o2 o3 o4 : Obj) : ((((w.alloc o1).alloc o2).alloc o3).alloc o4).drew.heap[w.heap.size + 1 + 1 + 1]? = some o4 ∧ Below w.heap.size w ((((w.alloc o1).alloc o2).alloc o3).alloc o4).drew := by
  refine ⟨?_, (((((Below.refl _ w).alloc (Nat.le_refl _) _).alloc (by simp) _).alloc (by simp; omega) _).alloc (by simp; omega) _).drew⟩
  have h := (MapKept.heap_alloc (((w.alloc o1).alloc o2).alloc o3) o4).1
  simp only [World.size_alloc] at h
  exact h

set_option maxHeartbeats 1000000 in
theorem move_out (F : Interp) (num shard gid : Int) (B n M : Nat) (w : World) (hF : F.answers w.tape) (hs : shard < 0 ∨ (n : Int) ≤ shard) (hn : n ≤ 1024) :
    Calls Ybaf.prog 4 #[.agg #[.int .i64 num, .slice (some ⟨B, 0, none⟩) n n, .map (some M)], .int .i64 shard, .int .u64 gid] w (Refused w) := by
  have hF' := answers_open hF
  rcases hs with hs | hs
  · go_enter Ybaf.func4, Ybaf.ntmps4
    go_wp2
    exact bodyPost_ret (v := .tuple #[.agg #[.int .i64 0, .slice none 0 0, .map none], .iface 35 (.pointer (some ⟨w.heap.size + 1 + 1 + 1, 0, none⟩))]) (by simp [results, Ybaf.results4, go_sem]) rfl ⟨_, _, rfl, by omega, (four_new w _ _ _ _).1, (four_new w _ _ _ _).2⟩
  · have hs0 : 0 ≤ shard := by omega
    go_enter Ybaf.func4, Ybaf.ntmps4
    go_wp2
    exact bodyPost_ret (v := .tuple #[.agg #[.int .i64 0, .slice none 0 0, .map none], .iface 35 (.pointer (some ⟨w.heap.size + 1 + 1 + 1, 0, none⟩))]) (by simp [results, Ybaf.results4, go_sem]) rfl ⟨_, _, rfl, by omega, (four_new w _ _ _ _).1, (four_new w _ _ _ _).2⟩

theorem bcell {W w1 : World} (hb : Below W.heap.size W w1) : (∀ b o, b < W.heap.size → w1.cell? ⟨b, o, none⟩ = W.cell? ⟨b, o, none⟩) ∧ (∀ b o, b < W.heap.size → w1.frozen? ⟨b, o, none⟩ = W.frozen? ⟨b, o, none⟩) :=
  ⟨fun b o h => hb.cell (p := ⟨b, o, none⟩) h, fun b o h => hb.frozen (p := ⟨b, o, none⟩) h⟩

set_option maxHeartbeats 1000000 in
theorem move_no (F : Interp) (num gid : Int) (shard B n M k : Nat) (es : Array MapEntry) (clock : Nat) (zs : List Int) (w : World) (hF : F.answers w.tape) (hs : shard < n) (_hn : n ≤ 1024)
    (hM : w.heap[M]? = some (.map es clock)) (G : Good w es zs k) (hg : gid ∉ zs.take k) (hw : (Lit.int .u64 gid).wf = true) :
    Calls Ybaf.prog 4 #[.agg #[.int .i64 num, .slice (some ⟨B, 0, none⟩) n n, .map (some M)], .int .i64 shard, .int .u64 gid] w (Refused w) := by
  have hF' := answers_open hF
  have hbel : Below w.heap.size w ((w.alloc (.cells #[.int .i64 num, .slice (some ⟨B, 0, none⟩) n n, .map (some M)] 29)).alloc (.cells #[.int .i64 0, .slice none 0 0, .map none] 29)) := ((Below.refl _ w).alloc (Nat.le_refl _) _).alloc (by simp) _
  have hM1 := (hbel.block M (Array.getElem?_eq_some_iff.1 hM).1).trans hM
  go_enter Ybaf.func4, Ybaf.ntmps4
  go_wp2_with fail
  refine (checkGroup_no F num gid _ _ es clock M k zs _ (by exact hF) ⟨_, _, _, rfl⟩ hM1 (G.below hbel) hg hw).mono ?_
  rintro e w1 ⟨E, s, rfl, hE, hEb, hb1⟩
  obtain ⟨hc, hf⟩ := bcell hb1
  have hz : w.heap.size + 1 < w1.heap.size := by have := hb1.size; simp at this; omega
  go_wp2
  have hE' : w.heap.size + 1 < E := by simp at hE; omega
  have hfin : Below w.heap.size w (((w1.setCell ⟨w.heap.size + 1, 0, none⟩ (.int .i64 0)).setCell ⟨w.heap.size + 1, 1, none⟩ (.slice none 0 0)).setCell ⟨w.heap.size + 1, 2, none⟩ (.map none)) :=
    (((hbel.trans (hb1.mono (by simp; omega))).setCell (by simp) _).setCell (by simp) _).setCell (by simp) _
  exact bodyPost_ret (v := .tuple #[.agg #[.int .i64 0, .slice none 0 0, .map none], .iface 35 (.pointer (some ⟨E, 0, none⟩))]) (by simp [results, Ybaf.results4, go_sem, hc]) rfl ⟨E, s, rfl, by omega, by
    rw [Below.heap_setCell _ _ _ _ (by simp; omega), Below.heap_setCell _ _ _ _ (by simp; omega), Below.heap_setCell _ _ _ _ (by simp; omega)]; exact hEb, hfin⟩

/-- WHAT A MOVE LEAVES: one more number; new shards, the named one turned; a new map with the same entries. -/
def Moved (w : World) (num : Int) (n : Nat) (cs : Array Value) (shard : Nat) (gid : Int) (es : Array MapEntry) (clock : Nat) (e : Ending) (w' : World) : Prop :=
  ∃ g cap cur M', e = .returned (.tuple #[.agg #[.int .i64 (wrap64 (num + 1)), .slice (some ⟨g, 0, none⟩) n cap, .map (some M')], .nilIface]) ∧ w.heap.size ≤ g ∧ w.heap.size ≤ M' ∧
    w'.heap[g]? = some (.cells cur 25 (0, 0)) ∧ n ≤ cur.size ∧ (∀ i, i < n → cur[i]? = if i = shard then some (.int .u64 gid) else cs[i]?) ∧ w'.heap[M']? = some (.map es clock) ∧ Below w.heap.size w w'

theorem wrapEq (x : Int) : IntKind.i64.wrap x = wrap64 x := by rw [IntKind.wrap_i64, wrap64]

theorem moved_end (w w3 : World) (num gid : Int) (n g cap shard : Nat) (cs cur : Array Value) (es : Array MapEntry) (clock : Nat) (u0 u1 u2 : Value)
    (h : w3.heap[g]? = some (.cells (cur.setIfInBounds shard (.int .u64 gid)) 25 (0, 0)) ∧ Below w.heap.size w w3 ∧ w.heap.size ≤ g ∧ cur.size = cap ∧ n ≤ cap ∧ cur.toList.take n = cs.toList ∧ g < w3.heap.size) (hg1 : w.heap.size + 1 < g) :
    Moved w num n cs shard gid es clock (.returned (.tuple #[.agg #[.int .i64 (wrap64 (num + 1)), .slice (some ⟨g, 0, none⟩) n cap, .map (some w3.heap.size)], .nilIface]))
      ((((w3.setCell ⟨w.heap.size + 1, 0, none⟩ u0).setCell ⟨w.heap.size + 1, 1, none⟩ u1).setCell ⟨w.heap.size + 1, 2, none⟩ u2).alloc (.map es clock)).drew := by
  obtain ⟨hcur, hb, hg, hsz, hcap, htk, hlt⟩ := h
  have hsz3 : (((w3.setCell ⟨w.heap.size + 1, 0, none⟩ u0).setCell ⟨w.heap.size + 1, 1, none⟩ u1).setCell ⟨w.heap.size + 1, 2, none⟩ u2).heap.size = w3.heap.size := by simp [World.setCell]
  refine ⟨g, cap, cur.setIfInBounds shard (.int .u64 gid), w3.heap.size, rfl, hg, hb.size, ?_, by simp; omega, ?_, ?_, ?_⟩
  · show (World.alloc _ _).heap[g]? = _
    rw [Below.heap_alloc _ _ _ (by rw [hsz3]; exact hlt), Below.heap_setCell _ _ _ _ (by simp; omega), Below.heap_setCell _ _ _ _ (by simp; omega), Below.heap_setCell _ _ _ _ (by simp; omega)]
    exact hcur
  · intro i hi
    have hci : cur[i]? = cs[i]? := by
      have := congrArg (fun l => l[i]?) htk
      simpa [List.getElem?_take, hi] using this
    rw [Array.getElem?_setIfInBounds]
    by_cases he : shard = i
    · subst he
      simp; omega
    · rw [if_neg he, if_neg (fun e => he e.symm)]; exact hci
  · show (World.alloc _ _).heap[w3.heap.size]? = _
    rw [← hsz3]
    exact (MapKept.heap_alloc _ _).1
  · exact ((((hb.setCell (by simp) _).setCell (by simp) _).setCell (by simp) _).alloc (by rw [hsz3]; exact hb.size) _).drew

set_option maxHeartbeats 2000000 in
theorem move_yes (num gid : Int) (shard B n M k : Nat) (cs : Array Value) (es : Array MapEntry) (clock : Nat) (zs : List Int) (w : World) (hs : shard < n) (hn : n ≤ 1024)
    (hB : w.heap[B]? = some (.cells cs 25 (0, 0))) (hcs : cs.size = n) (h1 : ∀ u ∈ cs.toList, u.oneCell' = true)
    (hM : w.heap[M]? = some (.map es clock)) (G : Good w es zs k) (hg : gid ∈ zs.take k) (hw : (Lit.int .u64 gid).wf = true) :
    Calls Ybaf.prog 4 #[.agg #[.int .i64 num, .slice (some ⟨B, 0, none⟩) n n, .map (some M)], .int .i64 shard, .int .u64 gid] w (Moved w num n cs shard gid es clock) := by
  have hbel : Below w.heap.size w ((w.alloc (.cells #[.int .i64 num, .slice (some ⟨B, 0, none⟩) n n, .map (some M)] 29)).alloc (.cells #[.int .i64 0, .slice none 0 0, .map none] 29)) := ((Below.refl _ w).alloc (Nat.le_refl _) _).alloc (by simp) _
  have hM1 := (hbel.block M (Array.getElem?_eq_some_iff.1 hM).1).trans hM
  have hB1 := (hbel.block B (Array.getElem?_eq_some_iff.1 hB).1).trans hB
  go_enter Ybaf.func4, Ybaf.ntmps4
  go_wp2_with fail
  refine (checkGroup_yes num gid _ _ es clock M k zs _ ⟨_, _, _, rfl⟩ hM1 (G.below hbel) hg hw).mono ?_
  rintro e w1 ⟨rfl, hb1⟩
  have hM2 := (hb1.block M (Array.getElem?_eq_some_iff.1 hM1).1).trans hM1
  have hB2 := (hb1.block B (Array.getElem?_eq_some_iff.1 hB1).1).trans hB1
  obtain ⟨hc, hf⟩ := bcell hb1
  have hz : w.heap.size + 1 < w1.heap.size := by have := hb1.size; simp at this; omega
  go_wp2_with fail
  refine (slicesClone_any B n cs _ hB2 (by omega) hcs hn h1).mono ?_
  rintro e w2 ⟨g, cap, cur, rfl, hg2, hcur, hsz, hcap, htk, hb2⟩
  have hM3 := (hb2.block M (Array.getElem?_eq_some_iff.1 hM2).1).trans hM2
  have hv0 : ∃ v0, w2.cell? ⟨g, shard, none⟩ = some v0 := by
    rw [cell_of_row w2 g shard cur 25 (0, 0) hcur]
    exact ⟨cur[shard]'(by omega), Array.getElem?_eq_getElem (by omega)⟩
  obtain ⟨v0, hv0⟩ := hv0
  have hf0 : w2.frozen? ⟨g, shard, none⟩ = false := by simp [World.frozen?, hcur]
  have hgN : w.heap.size + 1 < g := by omega
  have hMg : M ≠ g := fun e => by rw [e, hcur] at hM3; cases hM3
  obtain ⟨w3, hw3⟩ : ∃ w3, w3 = w2.setCell ⟨g, shard, none⟩ (.int .u64 gid) := ⟨_, rfl⟩
  have c0 : w3.cell? ⟨w.heap.size, 0, none⟩ = some (.int .i64 num) := by
    rw [hw3, World.cell?_setCell_other _ _ _ _ (by simp <;> omega), hb2.cell (by simp <;> omega), hc _ _ (by simp <;> omega)]; simp
  have c2 : w3.cell? ⟨w.heap.size, 2, none⟩ = some (.map (some M)) := by
    rw [hw3, World.cell?_setCell_other _ _ _ _ (by simp <;> omega), hb2.cell (by simp <;> omega), hc _ _ (by simp <;> omega)]; simp
  have d0 : w3.cell? ⟨w.heap.size + 1, 0, none⟩ = some (.int .i64 0) := by
    rw [hw3, World.cell?_setCell_other _ _ _ _ (by simp <;> omega), hb2.cell (by simp <;> omega), hc _ _ (by simp)]; simp
  have d1 : w3.cell? ⟨w.heap.size + 1, 1, none⟩ = some (.slice none 0 0) := by
    rw [hw3, World.cell?_setCell_other _ _ _ _ (by simp <;> omega), hb2.cell (by simp <;> omega), hc _ _ (by simp)]; simp
  have d2 : w3.cell? ⟨w.heap.size + 1, 2, none⟩ = some (.map none) := by
    rw [hw3, World.cell?_setCell_other _ _ _ _ (by simp <;> omega), hb2.cell (by simp <;> omega), hc _ _ (by simp)]; simp
  have e0 : w3.frozen? ⟨w.heap.size + 1, 0, none⟩ = false := by rw [hw3, World.frozen?_setCell, hb2.frozen (by simp <;> omega), hf _ _ (by simp)]; simp
  have e1 : w3.frozen? ⟨w.heap.size + 1, 1, none⟩ = false := by rw [hw3, World.frozen?_setCell, hb2.frozen (by simp <;> omega), hf _ _ (by simp)]; simp
  have e2 : w3.frozen? ⟨w.heap.size + 1, 2, none⟩ = false := by rw [hw3, World.frozen?_setCell, hb2.frozen (by simp <;> omega), hf _ _ (by simp)]; simp
  have hM4 : w3.heap[M]? = some (.map es clock) := by rw [hw3, Below.heap_setCell _ _ _ _ hMg]; exact hM3
  have hz3 : w.heap.size + 1 < w3.heap.size := by have := hb2.size; rw [hw3]; simp [World.setCell]; omega
  have HH : Hid (w3.heap[g]? = some (.cells (cur.setIfInBounds shard (.int .u64 gid)) 25 (0, 0)) ∧ Below w.heap.size w w3 ∧ w.heap.size ≤ g ∧ cur.size = cap ∧ n ≤ cap ∧ cur.toList.take n = cs.toList ∧ g < w3.heap.size) := by
    refine ⟨?_, ?_, by omega, hsz, hcap, htk, ?_⟩
    · rw [hw3]
      simp [World.setCell, Array.getElem?_modify, hcur]
    · rw [hw3]
      exact (hbel.trans ((hb1.mono (by simp; omega)).trans (hb2.mono (by omega)))).setCell (by simp; omega) _
    · have := (Array.getElem?_eq_some_iff.1 hcur).1
      rw [hw3]; simpa [World.setCell] using this
  have Hw : Hid (w3 = w2.setCell ⟨g, shard, none⟩ (.int .u64 gid)) := hw3
  clear hb2 hb1 hbel hc hf hM1 hM2 hM3 hB1 hB2 hcur htk hsz hg2 hw3
  go_wp2_with fail
  rw [← Hw.out]
  clear hv0 hf0 Hw hcap
  go_region_held3 (fun w' => w'.cell? ⟨w.heap.size, 0, none⟩ = some (.int .i64 num) ∧ w'.cell? ⟨w.heap.size, 2, none⟩ = some (.map (some M))) (go_keep)
    (first | (go_at_call 9; refine (mapsClone_any M es clock _ (by exact hM4)).mono ?_; rintro e w' ⟨rfl, rfl⟩))
  all_goals go_wp2
  refine bodyPost_ret (v := .tuple #[.agg #[.int .i64 (IntKind.i64.wrap (num + 1)), .slice (some ⟨g, 0, none⟩) n cap, .map (some w3.heap.size)], .nilIface]) (by simp [results, Ybaf.results4, go_sem, d0, d1, d2, hz3]) rfl ?_
  rw [wrapEq]
  exact moved_end w w3 num gid n g cap shard cs cur es clock _ _ _ HH.out hgN
end Go.Proofs.YbulkcoroFmt.Move

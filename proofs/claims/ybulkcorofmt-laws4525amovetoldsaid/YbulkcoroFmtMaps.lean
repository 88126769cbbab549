/- OUR OWN TEXT. A map keyed by GID that the law itself has made, as its block lies in memory: what a look-up, a store, a delete come to. -/
import Derived.Test.YbulkcoroFmtBase
import Derived.Maps.Own
import Derived.Shelf.SlMaps.Clone
namespace Go.Proofs.YbulkcoroFmt.Move
open Go.RowKit Go.Maps Go.ChangeMaps

/-! ### any map -/
section
variable {P : Program} {w : World} {t k e : TypeId} {b : Nat} {es : Array MapEntry} {clock : Nat} {key : Value} {kl : Lit}

theorem look_ok (K : Keyed P k) (ht : P.underlying t = some (.map k e)) {z : Value} (hz : (zeroValue e).run P w = .ok z w) (hb : w.heap[b]? = some (.map es clock)) (hes : ∀ x ∈ es.toList, ∃ l, keyOf P k x.key = some l) (hkey : keyOf P k key = some kl) :
    ((Instr.lookup t (.map (some b)) key true).run P w = .ok (.tuple #[z, .bool false]) w ∧ ∀ x ∈ es.toList, x.key ≠ key) ∨
    ∃ x, x ∈ es.toList ∧ x.key = key ∧ (Instr.lookup t (.map (some b)) key true).run P w = .ok (.tuple #[x.val, .bool true]) w := by
  rcases K.find w hkey es.toList hes with ⟨h1, h2⟩ | ⟨j, e0, h1, h2, h3⟩
  · exact Or.inl ⟨by simp [Instr.lookup, run_underlying ht, MapKept.run_getObj_map hb, K.check w _ hkey, h1, hz, Result.andThen], h2⟩
  · exact Or.inr ⟨e0, List.mem_of_getElem? h2, h3, by simp [Instr.lookup, run_underlying ht, MapKept.run_getObj_map hb, K.check w _ hkey, h1, Result.andThen]⟩

theorem store_ok (K : Keyed P k) (ht : P.underlying t = some (.map k e)) (hb : w.heap[b]? = some (.map es clock)) (hes : ∀ x ∈ es.toList, ∃ l, keyOf P k x.key = some l) (hkey : keyOf P k key = some kl) (v : Value) :
    ((∀ x ∈ es.toList, x.key ≠ key) ∧ (Instr.mapUpdate t (.map (some b)) key v).run P w = .ok () (setBlock w b (.map (es.push ⟨key, v, clock⟩) (clock + 1)))) ∨
    ∃ j e0, es.toList[j]? = some e0 ∧ e0.key = key ∧ (Instr.mapUpdate t (.map (some b)) key v).run P w = .ok () (setBlock w b (.map (es.modify j (fun e' => { e' with key := key, val := v })) clock)) := by
  rcases K.find w hkey es.toList hes with ⟨h1, h2⟩ | ⟨j, e0, h1, h2, h3⟩
  · exact Or.inl ⟨h2, by simp [Instr.mapUpdate, run_underlying ht, MapKept.run_getObj_map hb, K.check w false hkey, h1, MapKept.run_setObj_map _ hb, Result.andThen, setBlock]⟩
  · have hj : es[j]? = some e0 := by simpa using h2
    exact Or.inr ⟨j, e0, h2, h3, by simp [Instr.mapUpdate, run_underlying ht, MapKept.run_getObj_map hb, K.check w false hkey, h1, hj, h3, K.stays w hkey, MapKept.run_setObj_map _ hb, Result.andThen, setBlock]⟩

theorem drop_ok {ty : TypeId} (K : Keyed P k) (ht : P.underlying t = some (.map k e)) (hb : w.heap[b]? = some (.map es clock)) (hes : ∀ x ∈ es.toList, ∃ l, keyOf P k x.key = some l) (hkey : keyOf P k key = some kl) :
    ∃ es', (Builtin.delete_ #[t, k] ty #[.map (some b), key]).run P w = .ok (.tuple #[]) (setBlock w b (.map es' clock)) := by
  rcases K.find w hkey es.toList hes with ⟨h1, h2⟩ | ⟨j, e0, h1, h2, h3⟩
  · exact ⟨es, by simp [Builtin.delete_, run_underlying ht, MapKept.run_getObj_map hb, K.check w _ hkey, h1, MapKept.run_setObj_map _ hb, Result.andThen, setBlock]⟩
  · exact ⟨es.eraseIdxIfInBounds j, by simp [Builtin.delete_, run_underlying ht, MapKept.run_getObj_map hb, K.check w _ hkey, h1, MapKept.run_setObj_map _ hb, Result.andThen, setBlock]⟩

theorem makeMap_hint (ht : P.underlying t = some (.map k e)) (q : IntKind) (n : Int) (w : World) : (Instr.makeMap t (some (.int q n))).run P w = .ok (.map (some w.heap.size)) (w.alloc (.map #[] 0)) := by
  simp [Instr.makeMap, run_underlying ht, asInt, asIntOf, go_sem, Result.andThen]
end

/-! ### this program's map: GID to []string -/
theorem gid_law : Keyed Ybaf.prog 25 := int_keyed Ybaf.underlying25

theorem zero27 (w : World) : (zeroValue 27).run Ybaf.prog w = .ok (.slice none 0 0) w := by kernel_rfl

/-- The one-element slice of h's: the block of a map's element. -/
def hBlock : Obj := .cells #[.string ⟨#[104]⟩] 9 (0, 0)

/-- WHAT THE LAW's MAP HOLDS WHEN THE FIRST k KEYS OF zs HAVE BEEN STORED. -/
structure Good (w : World) (es : Array MapEntry) (zs : List Int) (k : Nat) : Prop where
  keys : ∀ x ∈ es.toList, ∃ a, x.key = .int .u64 a ∧ (Lit.int .u64 a).wf = true ∧ a ∈ zs.take k
  vals : ∀ x ∈ es.toList, ∃ g, x.val = .slice (some ⟨g, 0, none⟩) 1 1 ∧ w.heap[g]? = some hBlock
  has : ∀ a ∈ zs.take k, ∃ x ∈ es.toList, x.key = .int .u64 a
  size : es.size = dcTo zs k

theorem Good.keyOf {w : World} {es : Array MapEntry} {zs : List Int} {k : Nat} (G : Good w es zs k) : ∀ x ∈ es.toList, ∃ l, Go.keyOf Ybaf.prog 25 x.key = some l := fun x hx => by
  obtain ⟨a, h, hw, _⟩ := G.keys x hx
  exact ⟨_, by rw [h]; exact keyOf_int_mk Ybaf.underlying25 hw⟩

theorem Good.kept {w w' : World} {es : Array MapEntry} {zs : List Int} {k : Nat} (G : Good w es zs k) (h : ∀ g : Nat, w.heap[g]? = some hBlock → w'.heap[g]? = some hBlock) : Good w' es zs k :=
  ⟨G.keys, fun x hx => by obtain ⟨g, h1, h2⟩ := G.vals x hx; exact ⟨g, h1, h g h2⟩, G.has, G.size⟩

theorem Good.below {w w' : World} {es : Array MapEntry} {zs : List Int} {k : Nat} (G : Good w es zs k) (h : Below w.heap.size w w') : Good w' es zs k :=
  G.kept fun g hg => by rw [h.block g (Array.getElem?_eq_some_iff.1 hg).1]; exact hg

theorem good_none (w : World) (zs : List Int) : Good w #[] zs 0 := ⟨by simp, by simp, by simp, by simp [dcTo]⟩

theorem Good.yes {w : World} {es : Array MapEntry} {zs : List Int} {k M clock : Nat} (G : Good w es zs k) (hM : w.heap[M]? = some (.map es clock)) {a : Int} (ha : a ∈ zs.take k) (hw : (Lit.int .u64 a).wf = true) :
    ∃ g, w.heap[g]? = some hBlock ∧ (Instr.lookup 26 (.map (some M)) (.int .u64 a) true).run Ybaf.prog w = .ok (.tuple #[.slice (some ⟨g, 0, none⟩) 1 1, .bool true]) w := by
  rcases look_ok gid_law Ybaf.underlying26 (zero27 w) hM G.keyOf (keyOf_int_mk Ybaf.underlying25 hw) with ⟨_, h⟩ | ⟨x, hx, _, hr⟩
  · obtain ⟨x, hx, e⟩ := G.has a ha
    exact absurd e (h x hx)
  · obtain ⟨g, h1, h2⟩ := G.vals x hx
    rw [h1] at hr
    exact ⟨g, h2, hr⟩

theorem Good.no {w : World} {es : Array MapEntry} {zs : List Int} {k M clock : Nat} (G : Good w es zs k) (hM : w.heap[M]? = some (.map es clock)) {a : Int} (ha : a ∉ zs.take k) (hw : (Lit.int .u64 a).wf = true) :
    (Instr.lookup 26 (.map (some M)) (.int .u64 a) true).run Ybaf.prog w = .ok (.tuple #[.slice none 0 0, .bool false]) w := by
  rcases look_ok gid_law Ybaf.underlying26 (zero27 w) hM G.keyOf (keyOf_int_mk Ybaf.underlying25 hw) with ⟨h, _⟩ | ⟨x, hx, e, _⟩
  · exact h
  · obtain ⟨a', h1, _, h3⟩ := G.keys x hx
    rw [e] at h1
    simp only [Value.int.injEq, true_and] at h1
    exact absurd (h1 ▸ h3) ha

/-- 'groups[GID(k)] = []string{"h"}': the new element's block is laid, the entry is stored. -/
theorem Good.store {w : World} {es : Array MapEntry} {zs : List Int} {k M clock : Nat} (G : Good w es zs k) (hM : w.heap[M]? = some (.map es clock)) (hk : k < zs.length) (hw : (Lit.int .u64 (zs.getD k 0)).wf = true) :
    ∃ w' es' clock', (Instr.mapUpdate 26 (.map (some M)) (.int .u64 (zs.getD k 0)) (.slice (some ⟨w.heap.size, 0, none⟩) 1 1)).run Ybaf.prog (w.alloc hBlock) = .ok () w' ∧
      w'.heap[M]? = some (.map es' clock') ∧ Good w' es' zs (k + 1) ∧ w.grownBy w' (some M) := by
  have hMl := (Array.getElem?_eq_some_iff.1 hM).1
  have hM1 : (w.alloc hBlock).heap[M]? = some (.map es clock) := by rw [Below.heap_alloc w _ _ hMl]; exact hM
  have hN : (w.alloc hBlock).heap[w.heap.size]? = some hBlock := (MapKept.heap_alloc w hBlock).1
  have hgrow : ∀ o, w.grownBy (setBlock (w.alloc hBlock) M o) (some M) := fun o =>
    (World.grownBy_alloc w hBlock (some M)).trans ⟨rfl, rfl, rfl, by simp [setBlock], fun i _ hi => heap_setBlock_other hM1 _ (fun e => hi (by rw [e]))⟩
  have hblk : ∀ o g, (w.alloc hBlock).heap[g]? = some hBlock → (setBlock (w.alloc hBlock) M o).heap[g]? = some hBlock := fun o g hg => by
    rw [heap_setBlock_other hM1 _ (fun e => by rw [e, hM1] at hg; cases hg)]; exact hg
  have hold : ∀ g, w.heap[g]? = some hBlock → (w.alloc hBlock).heap[g]? = some hBlock := fun g hg => by
    rw [Below.heap_alloc w _ _ (Array.getElem?_eq_some_iff.1 hg).1]; exact hg
  have htk := take_snoc zs k hk
  rcases store_ok gid_law Ybaf.underlying26 hM1 G.keyOf (keyOf_int_mk Ybaf.underlying25 hw) (.slice (some ⟨w.heap.size, 0, none⟩) 1 1) with ⟨hn, hr⟩ | ⟨j, e0, hj, hke, hr⟩
  · refine ⟨_, _, _, hr, heap_setBlock_same hM1 _, ⟨?_, ?_, ?_, ?_⟩, hgrow _⟩
    · intro x hx
      simp only [Array.toList_push, List.mem_append, List.mem_singleton] at hx
      rcases hx with hx | rfl
      · obtain ⟨a, h1, h2, h3⟩ := G.keys x hx
        exact ⟨a, h1, h2, by rw [htk]; simp [h3]⟩
      · exact ⟨_, rfl, hw, by rw [htk]; simp⟩
    · intro x hx
      simp only [Array.toList_push, List.mem_append, List.mem_singleton] at hx
      rcases hx with hx | rfl
      · obtain ⟨g, h1, h2⟩ := G.vals x hx
        exact ⟨g, h1, hblk _ g (hold g h2)⟩
      · exact ⟨_, rfl, hblk _ _ hN⟩
    · intro a ha
      rw [htk, List.mem_append, List.mem_singleton] at ha
      rcases ha with ha | rfl
      · obtain ⟨x, hx, e⟩ := G.has a ha
        exact ⟨x, by simp [hx], e⟩
      · exact ⟨⟨.int .u64 (zs.getD k 0), .slice (some ⟨w.heap.size, 0, none⟩) 1 1, clock⟩, by simp, rfl⟩
    · have hnew : ¬ zs.getD k 0 ∈ zs.take k := fun h => by
        obtain ⟨x, hx, e⟩ := G.has _ h
        exact hn x hx e
      rw [dcTo, if_neg hnew, Array.size_push, G.size]
  · have hlist : (es.modify j (fun e' => { e' with key := .int .u64 (zs.getD k 0), val := .slice (some ⟨w.heap.size, 0, none⟩) 1 1 })).toList = es.toList.set j { e0 with key := .int .u64 (zs.getD k 0), val := .slice (some ⟨w.heap.size, 0, none⟩) 1 1 } := by
      rw [Array.toList_modify, modify_eq_set _ _ _ _ hj]
    have hmem0 : e0 ∈ es.toList := List.mem_of_getElem? hj
    have hin : zs.getD k 0 ∈ zs.take k := by
      obtain ⟨a, h1, _, h3⟩ := G.keys e0 hmem0
      rw [hke] at h1
      simp only [Value.int.injEq, true_and] at h1
      exact h1 ▸ h3
    have who : ∀ x ∈ es.toList.set j { e0 with key := .int .u64 (zs.getD k 0), val := .slice (some ⟨w.heap.size, 0, none⟩) 1 1 }, x = { e0 with key := .int .u64 (zs.getD k 0), val := .slice (some ⟨w.heap.size, 0, none⟩) 1 1 } ∨ x ∈ es.toList := fun x hx => by
      rcases List.mem_or_eq_of_mem_set hx with h | h
      · exact Or.inr h
      · exact Or.inl h
    refine ⟨_, _, _, hr, heap_setBlock_same hM1 _, ⟨?_, ?_, ?_, ?_⟩, hgrow _⟩
    · intro x hx
      rw [hlist] at hx
      rcases who x hx with rfl | hx
      · exact ⟨_, rfl, hw, by rw [htk]; simp⟩
      · obtain ⟨a, h1, h2, h3⟩ := G.keys x hx
        exact ⟨a, h1, h2, by rw [htk]; simp [h3]⟩
    · intro x hx
      rw [hlist] at hx
      rcases who x hx with rfl | hx
      · exact ⟨_, rfl, hblk _ _ hN⟩
      · obtain ⟨g, h1, h2⟩ := G.vals x hx
        exact ⟨g, h1, hblk _ g (hold g h2)⟩
    · intro a ha
      have ha' : a ∈ zs.take k := by
        rw [htk, List.mem_append, List.mem_singleton] at ha
        rcases ha with ha | rfl
        · exact ha
        · exact hin
      obtain ⟨x, hx, e⟩ := G.has a ha'
      obtain ⟨i, hi, ex⟩ := List.getElem_of_mem hx
      rw [hlist]
      by_cases hij : j = i
      · subst hij
        refine ⟨_, List.mem_set hi _, ?_⟩
        have : es.toList[j]? = some x := by rw [List.getElem?_eq_getElem hi, ex]
        rw [hj] at this
        cases this
        show Value.int .u64 (zs.getD k 0) = _
        rw [← hke, e]
      · refine ⟨x, ?_, e⟩
        have := List.getElem_mem (l := es.toList.set j { e0 with key := .int .u64 (zs.getD k 0), val := .slice (some ⟨w.heap.size, 0, none⟩) 1 1 }) (n := i) (by simpa using hi)
        rw [List.getElem_set_ne hij, ex] at this
        exact this
    · rw [Array.size_modify, dcTo, if_pos hin, G.size]; rfl

end Go.Proofs.YbulkcoroFmt.Move

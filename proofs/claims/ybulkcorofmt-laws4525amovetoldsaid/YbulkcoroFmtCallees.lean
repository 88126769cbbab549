/- OUR OWN TEXT. Contracts of what (Config).move calls: slices.Clone (8), maps.Clone (9), (Config).checkGroup (7). -/
import Derived.Test.YbulkcoroFmtFacts
import Derived.Test.YbulkcoroFmtMaps
import Derived.Deep.AppendLies
import Derived.Lib.SliceRun
namespace Go.Proofs.YbulkcoroFmt.Move
open Go.RowKit Go.Maps Go.ChangeMaps

theorem info25 : (Ybaf.prog.info? 25).map (fun i => (i.zero, i.size, i.bytes)) = some (some (.int .u64 0), 1, 8) := by kernel_rfl

/-! ### maps.Clone -/
theorem mapsClone_any (b : Nat) (es : Array MapEntry) (clock : Nat) (w : World) (hb : w.heap[b]? = some (.map es clock)) :
    Calls Ybaf.prog 9 #[.map (some b)] w fun e w' => e = .returned (.map (some w.heap.size)) ∧ w' = w.alloc (.map es clock) := by
  have hq := fun w => run_eql_map_nil_sl (P := Ybaf.prog) w 26 _ _ (some b) Ybaf.underlying26
  go_enter Ybaf.func9, Ybaf.ntmps9
  go_wp2
  rw [Ybaf.call10, run_maps_clone_sl w 26 hb]
  simp only [Result.andThen]
  rw [Oper.upon_value]
  go_wp2
  rw [run_typeAssert_map_sl _ 26 20 _ _ _ Ybaf.underlying26]
  simp only [Result.andThen]
  rw [Oper.upon_value]
  go_wp2
  go_ret
  exact ⟨rfl, rfl⟩

/-! ### slices.Clone, of a row of the call's own that is not empty -/
theorem slicesClone_any (b n : Nat) (cs : Array Value) (w : World) (hb : w.heap[b]? = some (.cells cs 25 (0, 0))) (h0 : 0 < n) (hn : cs.size = n) (hl : n ≤ 1024) (h1 : ∀ u ∈ cs.toList, u.oneCell' = true) :
    Calls Ybaf.prog 8 #[.slice (some ⟨b, 0, none⟩) n n] w fun e w' => ∃ g cap cur, e = .returned (.slice (some ⟨g, 0, none⟩) n cap) ∧ w.heap.size ≤ g ∧ w'.heap[g]? = some (.cells cur 25 (0, 0)) ∧ cur.size = cap ∧ n ≤ cap ∧ cur.toList.take n = cs.toList ∧ Below w.heap.size w w' := by
  have q24 : ∀ (w : World) (a : Option Addr) (n c n' c' : Nat), (binOp .eql 24 (.slice a n c) (.slice none n' c')).run Ybaf.prog w = .ok (.bool a.isNone) w := fun w a n c n' c' => Lib.run_eql_slice_nil w _ _ a n c n' c' Ybaf.underlying24
  obtain ⟨i0, hi, hz0, hz1, hz2⟩ := info_parts info25
  have hbl := (Array.getElem?_eq_some_iff.1 hb).1
  have hown : (w.alloc (.cells #[] 25)).ownsRow w.heap.size 25 1 (.slice (some ⟨w.heap.size, 0, none⟩) 0 0) 0 [] := ⟨rfl, Or.inr ⟨w.heap.size, 0, #[], rfl, Nat.le_refl _, (MapKept.heap_alloc w _).1, Nat.le_refl _, Nat.zero_le _, rfl, rfl⟩⟩
  have hnews : ∀ j u, cs.toList[j]? = some u → (w.alloc (.cells #[] 25)).cell? ((⟨b, 0, none⟩ : Addr).add j) = some u := World.news_of_block (by rw [Below.heap_alloc w _ _ hbl]; exact hb)
  go_enter Ybaf.func8, Ybaf.ntmps8
  go_wp2_with (at_builtin; refine wpList_append_lies _ (by rfl) _ _ 24 (by rfl) w.heap.size 25 i0 (.int .u64 0) 1 8 Ybaf.underlying24 hi hz0 hz1 hz2 rfl (by omega) _ 0 [] (by rfl) hown ⟨b, 0, none⟩ n n cs.toList (by rfl) (by simp [hn]) hnews h1 h0 (by unfold maxLen; omega) (by omega) (by simp) _ rfl ?_; intro g cap w1 hown1 hgrow hat hlt)
  go_ret
  have hge : w.heap.size ≤ g := by
    rcases hat with h | h
    · simp [Value.ownBlock] at h; omega
    · rw [h]; simp
  have hbel : Below w.heap.size w w1 := ((Below.refl _ w).alloc (Nat.le_refl _) _).grown hgrow (by simp) (fun k hk => by simp [Value.ownBlock] at hk; omega)
  rcases hown1.2 with ⟨h, _⟩ | ⟨g', cap', cur, hv, _, hg, hnc, _, hcs, htk⟩
  · cases h
  · simp only [Value.slice.injEq, Option.some.injEq, Addr.mk.injEq, and_true, true_and] at hv
    obtain ⟨rfl, rfl⟩ := hv
    simp only [Nat.zero_add, Nat.mul_one, List.nil_append] at hcs htk hnc
    exact ⟨g, cap, cur, by simp, hge, hg, hcs, hnc, htk, hbel⟩

/-- Three new blocks and a draw. -/
theorem three_new (w : World) (o1 o2 o3 : Obj) : (((w.alloc o1).alloc o2).alloc o3).drew.heap[w.heap.size + 1 + 1]? = some o3 ∧ Below w.heap.size w (((w.alloc o1).alloc o2).alloc o3).drew := by
  refine ⟨?_, ((((Below.refl _ w).alloc (Nat.le_refl _) _).alloc (by simp) _).alloc (by simp; omega) _).drew⟩
  have h := (MapKept.heap_alloc ((w.alloc o1).alloc o2) o3).1
  simp only [World.size_alloc] at h
  exact h

/-! ### (Config).checkGroup -/
open Go.Extern.Stop Go.Stop Go.Extern in
theorem checkGroup_yes (num gid : Int) (sl : Value) (op : ByteArray) (es : Array MapEntry) (clock M k : Nat) (zs : List Int) (w : World) (hsl : ∃ a n c, sl = .slice a n c)
    (hM : w.heap[M]? = some (.map es clock)) (G : Good w es zs k) (hg : gid ∈ zs.take k) (hw : (Lit.int .u64 gid).wf = true) :
    Calls Ybaf.prog 7 #[.agg #[.int .i64 num, sl, .map (some M)], .string op, .int .u64 gid] w fun e w' => e = .returned .nilIface ∧ Below w.heap.size w w' := by
  obtain ⟨a, n, c, rfl⟩ := hsl
  have hbel : Below w.heap.size w (w.alloc (.cells #[.int .i64 num, .slice a n c, .map (some M)] 29)) := (Below.refl _ w).alloc (Nat.le_refl _) _
  have hM1 := (hbel.block M (Array.getElem?_eq_some_iff.1 hM).1).trans hM
  obtain ⟨g, _, hl⟩ := (G.below hbel).yes hM1 hg hw
  go_enter Ybaf.func7, Ybaf.ntmps7
  go_wp2
  go_ret
  exact ⟨rfl, hbel⟩

open Go.Extern.Stop Go.Stop Go.Extern in
theorem checkGroup_no (F : Interp) (num gid : Int) (sl : Value) (op : ByteArray) (es : Array MapEntry) (clock M k : Nat) (zs : List Int) (w : World) (hF : F.answers w.tape) (hsl : ∃ a n c, sl = .slice a n c)
    (hM : w.heap[M]? = some (.map es clock)) (G : Good w es zs k) (hg : gid ∉ zs.take k) (hw : (Lit.int .u64 gid).wf = true) :
    Calls Ybaf.prog 7 #[.agg #[.int .i64 num, sl, .map (some M)], .string op, .int .u64 gid] w fun e w' => ∃ E s, e = .returned (.iface 35 (.pointer (some ⟨E, 0, none⟩))) ∧ w.heap.size ≤ E ∧ w'.heap[E]? = some (.cells #[.string op, .string s] 38 (0, 0)) ∧ Below w.heap.size w w' := by
  obtain ⟨a, n, c, rfl⟩ := hsl
  have hbel : Below w.heap.size w (w.alloc (.cells #[.int .i64 num, .slice a n c, .map (some M)] 29)) := (Below.refl _ w).alloc (Nat.le_refl _) _
  have hM1 := (hbel.block M (Array.getElem?_eq_some_iff.1 hM).1).trans hM
  have hl := (G.below hbel).no hM1 hg hw
  have hF' := answers_open hF
  go_enter Ybaf.func7, Ybaf.ntmps7
  go_wp2
  go_ret
  exact ⟨w.heap.size + 1 + 1, _, rfl, by omega, (three_new w _ _ _).1, (three_new w _ _ _).2⟩

end Go.Proofs.YbulkcoroFmt.Move

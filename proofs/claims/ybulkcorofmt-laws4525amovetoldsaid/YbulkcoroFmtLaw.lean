/- OUR OWN TEXT. LawS4525AMove (3): the walk. -/
import Derived.Test.YbulkcoroFmtMove
import Derived.Test.YbulkcoroFmtDistinct
import Derived.Deep.OwnRows
import Derived.Deep.CutRange
namespace Go.Proofs.YbulkcoroFmt.Move
open Go.RowKit Go.Maps Go.ChangeMaps
open Go.Extern.Stop Go.Stop Go.Extern

/-- 'in' after k rounds of the first loop. -/
def fillTo (zs : List Int) (k i : Nat) : Value := if i < k then .int .u64 (zs.getD i 0) else .int .u64 0

theorem fillTo_zero (zs : List Int) (i : Nat) : fillTo zs 0 i = .int .u64 0 := by simp [fillTo]

/-- The gid that the law picks. -/
def pick (m : Nat) (ks : List Int) (sel raw : Int) : Int := if 0 < m ∧ sel % (m + 1) < m then ks.getD (sel % (m + 1)).toNat 0 else raw

theorem fillTo_step (zs : List Int) (k i : Nat) : (if i = k then Value.int .u64 (zs.getD k 0) else fillTo zs k i) = fillTo zs (k + 1) i := by
  unfold fillTo
  by_cases h : i = k
  · subst h; simp
  · rw [if_neg h]
    by_cases h2 : i < k
    · rw [if_pos h2, if_pos (by omega)]
    · rw [if_neg h2, if_neg (by omega)]

theorem lt_of_cell {w : World} {a : Addr} {v : Value} (h : w.cell? a = some v) : a.block < w.heap.size := by
  unfold World.cell? at h
  cases hb : w.heap[a.block]? with
  | none => rw [hb] at h; cases h
  | some o => exact (Array.getElem?_eq_some_iff.1 hb).1

theorem InRow.below {w w' : World} {a : Option Addr} {len : Nat} {zs : List Int} (h : InRow w a len zs) (hb : Below w.heap.size w w') : InRow w' a len zs :=
  h.same fun i hi => hb.cell (lt_of_cell (h.cell i hi))

theorem len_map {w : World} {b : Nat} {es : Array MapEntry} {clock d : Nat} (ty : TypeId) (hb : w.heap[b]? = some (.map es clock)) (hs : es.size = d) : (Builtin.len_ #[26] ty #[.map (some b)]).run Ybaf.prog w = .ok (.int .i64 d) w := by
  rw [run_len_map (h := by kernel_rfl) (hb := hb), hs]; rfl

theorem ta35 (E : Nat) (w : World) : (Instr.typeAssert (.iface 35 (.pointer (some ⟨E, 0, none⟩))) 31 35 true).run Ybaf.prog w = .ok (.tuple #[.pointer (some ⟨E, 0, none⟩), .bool true]) w := by kernel_rfl

theorem belowN {B : Nat} {w w' : World} (h : Below B w w') {q : Nat} : Below B w (w'.drewN q) := ⟨h.os, h.tape, h.output, h.size, h.block⟩

theorem seenIn_iff (ks : List Int) (x : Int) (m : Nat) : seenIn ks x m = true ↔ x ∈ ks.take m := by simp [seenIn]

theorem pick_wf {m : Nat} {ks : List Int} {sel raw : Int} (hm : m ≤ ks.length) (_hs : 0 ≤ sel) (wks : ∀ z ∈ ks, (Lit.int .u64 z).wf = true) (wraw : (Lit.int .u64 raw).wf = true) : (Lit.int .u64 (pick m ks sel raw)).wf = true := by
  unfold pick
  split
  · rename_i h
    have h0 : 0 ≤ sel % ((m : Int) + 1) := Int.emod_nonneg _ (by omega)
    refine wks _ ?_
    have hl : (sel % ((m : Int) + 1)).toNat < ks.length := by omega
    simp only [List.getD, List.getElem?_eq_getElem hl, Option.getD_some]
    exact List.getElem_mem hl
  · exact wraw

theorem mem_take {ks : List Int} {k m : Nat} (hm : m ≤ ks.length) (hk : k < m) : ks.getD k 0 ∈ ks.take m := by
  have hl : k < ks.length := by omega
  have h : (ks.take m)[k]'(by simp; omega) = ks.getD k 0 := by simp [List.getD, hl]
  rw [← h]; exact List.getElem_mem _

theorem oneCells {cs : Array Value} {n : Nat} {zs : List Int} (hn : cs.size = n) (hv : ∀ i, i < n → cs[i]? = some (.int .u64 (zs.getD i 0))) : ∀ u ∈ cs.toList, u.oneCell' = true := fun u hu => by
  obtain ⟨i, hi, e⟩ := List.getElem_of_mem hu
  have hi' : i < cs.size := by simpa using hi
  have := hv i (by omega)
  rw [Array.getElem?_eq_getElem hi'] at this
  have e' : u = .int .u64 (zs.getD i 0) := by rw [← e]; simpa using this
  rw [e']; rfl

/-- WHAT LIES IN MEMORY BEHIND A MOVE THAT WAS MADE (N: the heap's size when the law began). -/
structure MovedAt (w w4 : World) (num gid : Int) (n j g cap M' R : Nat) (zs ks : List Int) (m : Nat) (es : Array MapEntry) (clock : Nat) : Prop where
  bel : Below w.heap.size w w4
  row : w4.rowIs w.heap.size 25 n (fun i => .int .u64 (zs.getD i 0))
  map : w4.heap[w.heap.size + 1]? = some (.map es clock)
  good : Good w4 es ks m
  size : es.size = dcTo ks m
  new : ∀ i, i < n → w4.cell? ⟨g, i, none⟩ = some (if i = j then .int .u64 gid else .int .u64 (zs.getD i 0))
  newf : ∀ i, w4.frozen? ⟨g, i, none⟩ = false
  map' : w4.heap[M']? = some (.map es clock)
  r0 : w4.cell? ⟨R, 0, none⟩ = some (.int .i64 (wrap64 (num + 1)))
  r1 : w4.cell? ⟨R, 1, none⟩ = some (.slice (some ⟨g, 0, none⟩) n cap)
  r2 : w4.cell? ⟨R, 2, none⟩ = some (.map (some M'))
  gN : w.heap.size + 1 < g
  MN : w.heap.size + 1 < M'
  gM : g ≠ M'
  gR : g ≠ R
  glt : g < w4.heap.size

theorem MovedAt.wfk {w w4 : World} {num gid : Int} {n j g cap M' R m : Nat} {zs ks : List Int} {es : Array MapEntry} {clock : Nat} (S : MovedAt w w4 num gid n j g cap M' R zs ks m es clock) {a : Int} (ha : a ∈ ks.take m) : (Lit.int .u64 a).wf = true := by
  obtain ⟨x, hx, e⟩ := S.good.has a ha
  obtain ⟨a', h1, h2, _⟩ := S.good.keys x hx
  rw [e] at h1
  simp only [Value.int.injEq, true_and] at h1
  rw [h1]; exact h2

theorem moved_facts {w W w3 w4 : World} {num gid : Int} {n j g cap M' m : Nat} {zs ks : List Int} {cs cur : Array Value} {es : Array MapEntry} {clock : Nat}
    (hw4 : w4 = w3.alloc (.cells #[.int .i64 (wrap64 (num + 1)), .slice (some ⟨g, 0, none⟩) n cap, .map (some M')] 29)) (hb3 : Below W.heap.size W w3) (hbelW : Below w.heap.size w W) (hszW : w.heap.size + 3 ≤ W.heap.size)
    (hcsb : W.heap[w.heap.size]? = some (.cells cs 25 (0, 0))) (hcsn : cs.size = n) (hcsv : ∀ i, i < n → cs[i]? = some (.int .u64 (zs.getD i 0))) (hmapW : W.heap[w.heap.size + 1]? = some (.map es clock)) (hGW : Good W es ks m)
    (hg3 : W.heap.size ≤ g) (hM3 : W.heap.size ≤ M') (hcur : w3.heap[g]? = some (.cells cur 25 (0, 0))) (_hcn : n ≤ cur.size) (hcv : ∀ i, i < n → cur[i]? = if i = j then some (.int .u64 gid) else cs[i]?) (hMb : w3.heap[M']? = some (.map es clock)) (_hj : j < n) :
    MovedAt w w4 num gid n j g cap M' w3.heap.size zs ks m es clock := by
  have hb4 : Below W.heap.size W w4 := by rw [hw4]; exact hb3.alloc hb3.size _
  have hgl := (Array.getElem?_eq_some_iff.1 hcur).1
  have hMl := (Array.getElem?_eq_some_iff.1 hMb).1
  have hg4 : w4.heap[g]? = some (.cells cur 25 (0, 0)) := by rw [hw4, Below.heap_alloc _ _ _ hgl]; exact hcur
  have hR4 : w4.heap[w3.heap.size]? = some (.cells #[.int .i64 (wrap64 (num + 1)), .slice (some ⟨g, 0, none⟩) n cap, .map (some M')] 29 (0, 0)) := by rw [hw4]; exact (MapKept.heap_alloc w3 _).1
  refine ⟨hbelW.trans (hb4.mono hbelW.size), ⟨cs, (hb4.block _ (by omega)).trans hcsb, hcsn, hcsv⟩, (hb4.block _ (by omega)).trans hmapW, hGW.below hb4, hGW.size, ?_, ?_, ?_, ?_, ?_, ?_, by omega, by omega, ?_, by omega, ?_⟩
  · intro i hi
    rw [cell_of_row _ _ _ _ _ _ hg4, hcv i hi]
    by_cases h : i = j
    · rw [if_pos h, if_pos h]
    · rw [if_neg h, if_neg h]; exact hcsv i hi
  · intro i; simp [World.frozen?, hg4]
  · rw [hw4, Below.heap_alloc _ _ _ hMl]; exact hMb
  · rw [cell_of_row _ _ _ _ _ _ hR4]; rfl
  · rw [cell_of_row _ _ _ _ _ _ hR4]; rfl
  · rw [cell_of_row _ _ _ _ _ _ hR4]; rfl
  · intro e; rw [e, hMb] at hcur; cases hcur
  · rw [hw4]; simp; omega

/-- .. and behind the store into the new shards. -/
structure StoredAt (w w6 : World) (n j M' R : Nat) (zs ks : List Int) (m : Nat) (es : Array MapEntry) (clock : Nat) : Prop where
  bel : Below w.heap.size w w6
  row : w6.cell? ⟨w.heap.size, j, none⟩ = some (.int .u64 (zs.getD j 0))
  map : w6.heap[w.heap.size + 1]? = some (.map es clock)
  good : Good w6 es ks m
  size : es.size = dcTo ks m
  map' : w6.heap[M']? = some (.map es clock)
  r2 : w6.cell? ⟨R, 2, none⟩ = some (.map (some M'))
  MN : w.heap.size + 1 < M'

theorem stored_facts {w w4 w6 : World} {num gid : Int} {n j g cap M' R m q : Nat} {zs ks : List Int} {es : Array MapEntry} {clock : Nat} {u : Value}
    (hw6 : w6 = (w4.drewN q).setCell ⟨g, j, none⟩ u) (S : MovedAt w w4 num gid n j g cap M' R zs ks m es clock) (hj : j < n) : StoredAt w w6 n j M' R zs ks m es clock := by
  have hbl : ∀ b : Nat, b ≠ g → w6.heap[b]? = w4.heap[b]? := fun b hb => by rw [hw6]; exact Below.heap_setCell _ _ _ _ hb
  have gN := S.gN
  refine ⟨?_, ?_, (hbl _ (by omega)).trans S.map, ?_, S.size, (hbl _ (fun e => S.gM e.symm)).trans S.map', ?_, S.MN⟩
  · rw [hw6]; exact (belowN S.bel).setCell (by simp; omega) _
  · exact (World.cell?_of_block (w := w4) (w' := w6) (hbl w.heap.size (by omega))).trans (S.row.cell hj)
  · refine S.good.kept fun b hb => ?_
    rw [hbl b (fun e => ?_)]
    · exact hb
    · have := S.new j hj
      rw [e] at hb
      rw [cell_of_row _ _ _ _ _ _ hb] at this
      cases j with
      | zero => simp at this
      | succ j => simp at this
  · exact (World.cell?_of_block (w := w4) (w' := w6) (hbl R (fun e => S.gR e.symm))).trans S.r2

/-- 'delete(res.Groups, gid)': the new map alone has turned. -/
theorem drop_facts {w w6 : World} {gid : Int} {M' m clock : Nat} {ks : List Int} {es : Array MapEntry} (q : Nat)
    (h : Below w.heap.size w w6 ∧ w6.heap[w.heap.size + 1]? = some (.map es clock) ∧ w6.heap[M']? = some (.map es clock) ∧ w.heap.size + 1 < M' ∧ es.size = dcTo ks m ∧ Good w6 es ks m) (wgid : (Lit.int .u64 gid).wf = true) :
    ∃ w7, (Builtin.delete_ #[26, 25] 0 #[.map (some M'), .int .u64 gid]).run Ybaf.prog (w6.drewN q) = .ok (.tuple #[]) w7 ∧ Below w.heap.size w w7 ∧ w7.heap[w.heap.size + 1]? = some (.map es clock) := by
  obtain ⟨hb, hm, hm', hlt, _, G⟩ := h
  have hm6 : (w6.drewN q).heap[M']? = some (.map es clock) := by simpa using hm'
  obtain ⟨es', hdel⟩ := drop_ok (P := Ybaf.prog) (w := w6.drewN q) (ty := 0) gid_law Ybaf.underlying26 hm6 G.keyOf (keyOf_int_mk Ybaf.underlying25 wgid)
  refine ⟨_, hdel, ⟨hb.os, hb.tape, hb.output, by simpa [setBlock] using hb.size, fun b hbl => ?_⟩, ?_⟩
  · exact (heap_setBlock_other hm6 _ (by omega)).trans (hb.block b hbl)
  · exact (heap_setBlock_other hm6 _ (by omega)).trans hm

set_option maxRecDepth 100000 in
set_option maxHeartbeats 4000000 in
theorem law_main (F : Interp) (num shard sel raw : Int) (a1 a2 : Option Addr) (n c1 m c2 : Nat) (zs ks : List Int) (w : World) (hF : F.answers w.tape)
    (h1 : InRow w a1 n zs) (h2 : InRow w a2 m ks) (hn : n ≤ 1024) (hm : m ≤ 1024) (hsel : 0 ≤ sel ∧ sel ≤ 255)
    (wks : ∀ z ∈ ks, (Lit.int .u64 z).wf = true) (wraw : (Lit.int .u64 raw).wf = true) :
    Calls Ybaf.prog 3 #[.int .i64 num, .slice a1 n c1, .slice a2 m c2, .int .i64 shard, .int .u8 sel, .int .u64 raw] w fun e w' => e = .returned (.bool true) ∧ Below w.heap.size w w' := by
  have hmk := run_make_row' (P := Ybaf.prog) 24 25 (.int .u64 0) 8 Ybaf.underlying24 info25 rfl .i64 .i64 n (by omega) (by omega)
  have hmm := fun (q : IntKind) (x : Int) => makeMap_hint (P := Ybaf.prog) Ybaf.underlying26 q x
  have hsz1 := h1.size
  have hsz2 := h2.size
  have hsel0 := hsel.1
  have hsel1 := hsel.2
  have hb1 : decide ((1024 : Int) < (n : Int)) = false := by simp; omega
  have hb2 : decide ((1024 : Int) < (m : Int)) = false := by simp; omega
  go_enter Ybaf.func3, Ybaf.ntmps3
  go_wp2_with fail
  clear hmk hsel
  go_loopw [48] (fun i wr => ∃ k : Nat, k ≤ n ∧ i = .int .i64 k ∧ wr.rowIs w.heap.size 25 n (fillTo zs k) ∧ Below w.heap.size w wr ∧ wr.heap.size = w.heap.size + 1) (fun i _ => n - (intOf i).toNat)
  case atStart => exact ⟨0, Nat.zero_le _, rfl, (World.rowIs_made w _ n 25).congr (fun i _ => (fillTo_zero zs i).symm), (Below.refl _ _).alloc (Nat.le_refl _) _, by simp⟩
  case round =>
    obtain ⟨k, hk, rfl, hrow, hbel, hsz⟩ := hrel
    by_cases hlt : k < n
    · have hik := h1.idx c1 k hlt
      have hck := (h1.below hbel).cell k hlt
      have hcin := hrow.cell hlt
      have hfin := hrow.frozen k
      have R := (hrow.set k (.int .u64 (zs.getD k 0))).congr (g := fillTo zs (k + 1)) (fun i _ => fillTo_step zs k i)
      have B := hbel.setCell (p := ⟨w.heap.size, k, none⟩) (Nat.le_refl _) (.int .u64 (zs.getD k 0))
      generalize zs.getD k 0 = z at *
      generalize fillTo zs k k = fz at *
      go_wp2
      go_roundw
      case rel => exact ⟨k + 1, by omega, by go_num, R, B, by simpa [World.setCell] using hsz⟩
      case measure => simp [intOf]; omega
    · have hkn : n = k := by omega
      subst hkn
      clear hlt hk hb1
      go_wp2_with fail
      have hrow1 := hrow.alloc (.map #[] 0)
      have hbel1 : Below w.heap.size w (wr.alloc (.map #[] 0)) := hbel.alloc (by omega) _
      have hmap1 : (wr.alloc (.map #[] 0)).heap[w.heap.size + 1]? = some (.map #[] 0) := by rw [← hsz]; exact (MapKept.heap_alloc wr _).1
      have hsz1' : w.heap.size + 2 ≤ (wr.alloc (.map #[] 0)).heap.size := by simp; omega
      go_loopw [64] (fun i wr => ∃ k : Nat, k ≤ m ∧ i = .int .i64 k ∧ wr.rowIs w.heap.size 25 n (fillTo zs n) ∧ Below w.heap.size w wr ∧ w.heap.size + 2 ≤ wr.heap.size ∧ ∃ es clock, wr.heap[w.heap.size + 1]? = some (.map es clock) ∧ Good wr es ks k) (fun i _ => m - (intOf i).toNat)
      case atStart => exact ⟨0, Nat.zero_le _, rfl, hrow1, hbel1, hsz1', _, _, hmap1, good_none _ _⟩
      case round =>
        clear hrow1 hbel1 hmap1 hsz1' hrow hbel hsz
        obtain ⟨k, hk, rfl, hrow, hbel, hsz, es, clock, hmap, hG⟩ := hrel
        by_cases hlt : k < m
        · have hik := h2.idx c2 k hlt
          have hck := (h2.below hbel).cell k hlt
          obtain ⟨w', es', clock', hrun, hmap', hG', hgrow⟩ := hG.store hmap (by omega) (wks _ (by simp only [List.getD, List.getElem?_eq_getElem (show k < ks.length by omega), Option.getD_some]; exact List.getElem_mem _))
          have R := hrow.of_block (hgrow.block w.heap.size (by omega) (by simp))
          have B := hbel.grown hgrow hbel.size (fun j hj => by cases hj; omega)
          have S := hgrow.size
          generalize ks.getD k 0 = z at *
          unfold hBlock at hrun
          have HH : Hid (w'.heap[w.heap.size + 1]? = some (.map es' clock') ∧ Good w' es' ks (k + 1)) := ⟨hmap', hG'⟩
          clear hmap' hG' hgrow hG hrow hbel hmap
          go_wp2
          go_roundw
          case rel => exact ⟨k + 1, by omega, by go_num, R, B, by omega, _, _, HH.out.1, HH.out.2⟩
          case measure => simp [intOf]; omega
        · have hkm : m = k := by omega
          subst hkm
          clear hlt hk hb2
          go_upto_if 75 with fail
          go_cut [18] from 72 to 89 (fun g wc => g = .int .u64 (pick m ks sel raw) ∧ wc = wr)
          case first =>
            clear hG hmap hrow
            by_cases hm0 : 0 < m
            · have hmod0 : 0 ≤ sel % ((m : Int) + 1) := Int.emod_nonneg _ (by omega)
              have hmod1 : sel % ((m : Int) + 1) < (m : Int) + 1 := Int.emod_lt_of_pos _ (by omega)
              by_cases hpm : sel % ((m : Int) + 1) < m
              · have hp : pick m ks sel raw = ks.getD (sel % ((m : Int) + 1)).toNat 0 := by unfold pick; rw [if_pos ⟨hm0, hpm⟩]
                have HP : Hid (pick m ks sel raw = ks.getD (sel % ((m : Int) + 1)).toNat 0) := hp
                clear hp
                obtain ⟨j, hj⟩ : ∃ j : Nat, sel % ((m : Int) + 1) = j := ⟨_, (Int.toNat_of_nonneg hmod0).symm⟩
                have hjm : j < m := by omega
                have hik := h2.idx c2 j hjm
                have hck := (h2.below hbel).cell j hjm
                have HZ : Hid (pick m ks sel raw = ks.getD j 0) := by show _ = _; rw [HP.out, hj, Int.toNat_natCast]
                clear HP
                generalize ks.getD j 0 = z at *
                go_wp2
                go_meet
                case rel => exact ⟨by rw [HZ.out], rfl⟩
              · have HP : Hid (pick m ks sel raw = raw) := by show _ = _; unfold pick; rw [if_neg (fun h => hpm h.2)]
                have hmod2 : sel % ((m : Int) + 1) = m := by omega
                go_wp2
                go_meet
                case rel => exact ⟨by rw [HP.out], rfl⟩
            · have HP : Hid (pick m ks sel raw = raw) := by show _ = _; unfold pick; rw [if_neg (fun h => hm0 h.1)]
              go_wp2
              go_meet
              case rel => exact ⟨by rw [HP.out], rfl⟩
          case rest =>
            obtain ⟨rfl, rfl⟩ := hcut
            have wgid := pick_wf hsz2 hsel0 wks wraw
            generalize pick m ks sel raw = gid at *
            clear hmm hsel0 hsel1 wks wraw
            go_wp2_with fail
            go_loop [20, 92] (fun b i => ∃ k : Nat, k ≤ m ∧ i = .int .i64 k ∧ b = .bool (seenIn ks gid k)) (fun _ i => m - (intOf i).toNat)
            case atStart => exact ⟨0, Nat.zero_le _, rfl, by rw [seenIn_zero]⟩
            case round =>
              obtain ⟨k, hk, rfl, rfl⟩ := hrel
              by_cases hlt : k < m
              · have hik := h2.idx c2 k hlt
                have hck := (h2.below hbel).cell k hlt
                cases hb : (ks.getD k 0 == gid)
                · have HS : Hid (seenIn ks gid (k + 1) = seenIn ks gid k) := seenIn_miss ks gid k (by omega) hb
                  generalize ks.getD k 0 = z at *
                  clear hG hmap hrow
                  go_wp2
                  go_round
                  case rel => exact ⟨k + 1, by omega, by go_num, by rw [HS.out]⟩
                  case measure => simp [intOf]; omega
                · have HS : Hid (seenIn ks gid (k + 1) = true) := seenIn_hit ks gid k (by omega) hb
                  generalize ks.getD k 0 = z at *
                  clear hG hmap hrow
                  go_wp2
                  go_round
                  case rel => exact ⟨k + 1, by omega, by go_num, by rw [HS.out]⟩
                  case measure => simp [intOf]; omega
              · have hkm : m = k := by omega
                subst hkm
                clear hlt hk
                go_wp2_with fail
                obtain ⟨W, hW⟩ : ∃ W, W = wc.alloc (.cells #[.int .i64 num, .slice (some ⟨w.heap.size, 0, none⟩) n n, .map (some (w.heap.size + 1))] 29) := ⟨_, rfl⟩
                have hWr : Below wc.heap.size wc W := by rw [hW]; exact (Below.refl _ _).alloc (Nat.le_refl _) _
                have hrowW := (hrow.of_block (hWr.block w.heap.size (by omega))).congr (g := fun i => .int .u64 (zs.getD i 0)) (fun i hi => by simp [fillTo, hi])
                have hmapW := (hWr.block (w.heap.size + 1) (by omega)).trans hmap
                have hGW := hG.below hWr
                have hbelW := hbel.trans (hWr.mono hbel.size)
                have hszW : w.heap.size + 3 ≤ W.heap.size := by rw [hW]; simp; omega
                rw [← hW]
                have hfin := seenIn_iff ks gid m
                clear hrow hmap hG hbel hsz
                by_cases hbad : (shard < 0 ∨ (n : Int) ≤ shard) ∨ gid ∉ ks.take m
                · have hcall : Calls Ybaf.prog 4 #[.agg #[.int .i64 num, .slice (some ⟨w.heap.size, 0, none⟩) n n, .map (some (w.heap.size + 1))], .int .i64 shard, .int .u64 gid] W (Refused W) := by
                    have hFW : F.answers W.tape := by rw [hbelW.tape]; exact hF
                    by_cases hout : shard < 0 ∨ (n : Int) ≤ shard
                    · exact move_out F num shard gid _ n _ W hFW hout hn
                    · obtain ⟨j, rfl⟩ := Int.eq_ofNat_of_zero_le (show 0 ≤ shard by omega)
                      exact move_no F num gid j _ n _ m es clock ks W hFW (by omega) hn hmapW hGW (hbad.resolve_left hout) wgid
                  refine hcall.mono ?_
                  clear hcall
                  rintro e w3 ⟨E, s, rfl, hE, hEb, hb3⟩
                  go_wp2_with fail
                  obtain ⟨w4, hw4⟩ : ∃ w4, w4 = w3.alloc (.cells #[.int .i64 0, .slice none 0 0, .map none] 29) := ⟨_, rfl⟩
                  rw [← hw4]
                  have hb4 : Below W.heap.size W w4 := by rw [hw4]; exact hb3.alloc hb3.size _
                  have hbel4 := hbelW.trans (hb4.mono hbelW.size)
                  have hrow4 := hrowW.of_block (hb4.block w.heap.size (by omega))
                  have hmap4 := (hb4.block (w.heap.size + 1) (by omega)).trans hmapW
                  have hE4 : w4.heap[E]? = some (.cells #[.string ⟨#[109, 111, 118, 101]⟩, .string s] 38 (0, 0)) := by
                    rw [hw4, Below.heap_alloc _ _ _ (Array.getElem?_eq_some_iff.1 hEb).1]; exact hEb
                  have hR4 : w4.heap[w3.heap.size]? = some (.cells #[.int .i64 0, .slice none 0 0, .map none] 29 (0, 0)) := by rw [hw4]; exact (MapKept.heap_alloc w3 _).1
                  have hsize4 : es.size = dcTo ks m := hGW.size
                  clear hGW hmapW hrowW hb4 hb3 hEb hw4 hWr hW hbelW hF
                  go_loopw [113] (fun i wr => ∃ k : Nat, k ≤ n ∧ i = .int .i64 k ∧ ∃ q, wr = w4.drewN q) (fun i _ => n - (intOf i).toNat)
                  case atStart => exact ⟨0, Nat.zero_le _, rfl, 0, rfl⟩
                  case round =>
                    obtain ⟨k, hk, rfl, q, rfl⟩ := hrel
                    by_cases hlt : k < n
                    · have hik := h1.idx c1 k hlt
                      have hck := (h1.below hbel4).cell k hlt
                      have hcin := hrow4.cell hlt
                      generalize zs.getD k 0 = z at *
                      go_wp2
                      go_quiet (fail)
                      go_wp2
                      go_roundw
                      case rel => exact ⟨k + 1, by omega, by go_num, _, rfl⟩
                      case measure => simp [intOf]; omega
                    · have hkn : n = k := by omega
                      subst hkn
                      clear hlt hk
                      have hlen := fun q : Nat => len_map (w := w4.drewN q) (b := w.heap.size + 1) (es := es) (clock := clock) (d := dcTo ks m) 3 (by simpa using hmap4) hsize4
                      have hd := dcTo_le ks m
                      go_wp2_with fail
                      refine (distinct_any a2 m c2 ks _ ((h2.below hbel4).drewN q) hm).mono ?_
                      rintro e w5 ⟨rfl, q2, hw5⟩
                      obtain ⟨q3, hq3⟩ : ∃ q3, w5 = w4.drewN q3 := ⟨q + q2, by rw [hw5, World.drewN_drewN]⟩
                      subst hq3
                      clear hw5 hlen
                      have r0 : w4.cell? ⟨w3.heap.size, 0, none⟩ = some (.int .i64 0) := by rw [cell_of_row _ _ _ _ _ _ hR4]; rfl
                      have r1 : w4.cell? ⟨w3.heap.size, 1, none⟩ = some (.slice none 0 0) := by rw [cell_of_row _ _ _ _ _ _ hR4]; rfl
                      have r2 : w4.cell? ⟨w3.heap.size, 2, none⟩ = some (.map none) := by rw [cell_of_row _ _ _ _ _ _ hR4]; rfl
                      have t0 : w4.cell? ⟨E, 0, none⟩ = some (.string ⟨#[109, 111, 118, 101]⟩) := by rw [cell_of_row _ _ _ _ _ _ hE4]; rfl
                      have ta := ta35 E
                      have q24 : ∀ (w : World) (a : Option Addr) (n c n' c' : Nat), (binOp .eql 24 (.slice a n c) (.slice none n' c')).run Ybaf.prog w = .ok (.bool a.isNone) w := fun w a n c n' c' => Lib.run_eql_slice_nil w _ _ a n c n' c' Ybaf.underlying24
                      have q26 := fun w => run_eql_map_nil_sl (P := Ybaf.prog) w 26 _ _ none Ybaf.underlying26
                      have hsb : (shard < 0) ∨ (0 ≤ shard ∧ (n : Int) ≤ shard) ∨ (0 ≤ shard ∧ shard < n ∧ seenIn ks gid m = false) := by
                        by_cases h0 : shard < 0
                        · exact Or.inl h0
                        · by_cases hge : (n : Int) ≤ shard
                          · exact Or.inr (Or.inl ⟨by omega, hge⟩)
                          · refine Or.inr (Or.inr ⟨by omega, by omega, ?_⟩)
                            rcases hbad with hb | hb
                            · omega
                            · cases hc : seenIn ks gid m
                              · rfl
                              · exact absurd (hfin.1 hc) hb
                      clear hbad hfin hE4 hR4 hmap4 hrow4 hszW hE hsize4
                      rcases hsb with hs | ⟨hs0, hs⟩ | ⟨hs0, hs, hsn⟩
                      · have hd1 : decide (shard < 0) = true := by simpa using hs
                        go_wp2
                        go_ret
                        exact ⟨rfl, belowN hbel4⟩
                      · have hd1 : decide (shard < 0) = false := by simp; omega
                        have hd2 : decide ((n : Int) ≤ shard) = true := by simpa using hs
                        go_wp2
                        go_ret
                        exact ⟨rfl, belowN hbel4⟩
                      · have hd1 : decide (shard < 0) = false := by simp; omega
                        have hd2 : decide ((n : Int) ≤ shard) = false := by simp; omega
                        go_wp2
                        go_ret
                        exact ⟨rfl, belowN hbel4⟩
                · obtain ⟨hsh, hgin⟩ : (0 ≤ shard ∧ shard < n) ∧ gid ∈ ks.take m := by
                    refine ⟨by omega, ?_⟩
                    by_cases h : gid ∈ ks.take m
                    · exact h
                    · exact absurd (Or.inr h) hbad
                  obtain ⟨j, rfl⟩ := Int.eq_ofNat_of_zero_le hsh.1
                  have hj : j < n := by omega
                  have hseen : seenIn ks gid m = true := hfin.2 hgin
                  clear hfin hbad hsh
                  obtain ⟨cs, hcsb, hcsn, hcsv⟩ := hrowW
                  refine (move_yes num gid j w.heap.size n (w.heap.size + 1) m cs es clock ks W hj hn hcsb hcsn (oneCells hcsn hcsv) hmapW hGW hgin wgid).mono ?_
                  rintro e w3 ⟨g, cap, cur, M', rfl, hg3, hM3, hcur, hcn, hcv, hMb, hb3⟩
                  go_wp2_with fail
                  obtain ⟨w4, hw4⟩ : ∃ w4, w4 = w3.alloc (.cells #[.int .i64 (wrap64 (num + 1)), .slice (some ⟨g, 0, none⟩) n cap, .map (some M')] 29) := ⟨_, rfl⟩
                  rw [← hw4]
                  have S4 := moved_facts hw4 hb3 hbelW hszW hcsb hcsn hcsv hmapW hGW hg3 hM3 hcur hcn hcv hMb hj
                  clear hGW hmapW hcsb hcsn hcsv hcur hcn hcv hMb hb3 hw4 hWr hW hbelW hF
                  have hbel4 := S4.bel
                  have hrow4 := S4.row
                  go_loopw [113] (fun i wr => ∃ k : Nat, k ≤ n ∧ i = .int .i64 k ∧ ∃ q, wr = w4.drewN q) (fun i _ => n - (intOf i).toNat)
                  case atStart => exact ⟨0, Nat.zero_le _, rfl, 0, rfl⟩
                  case round =>
                    obtain ⟨k, hk, rfl, q, rfl⟩ := hrel
                    by_cases hlt : k < n
                    · have hik := h1.idx c1 k hlt
                      have hck := (h1.below hbel4).cell k hlt
                      have hcin := hrow4.cell hlt
                      generalize zs.getD k 0 = z at *
                      clear S4
                      go_wp2
                      go_quiet (fail)
                      go_wp2
                      go_roundw
                      case rel => exact ⟨k + 1, by omega, by go_num, _, rfl⟩
                      case measure => simp [intOf]; omega
                    · have hkn : n = k := by omega
                      subst hkn
                      clear hlt hk
                      have hlen := fun q : Nat => len_map (w := w4.drewN q) (b := w.heap.size + 1) (es := es) (clock := clock) (d := dcTo ks m) 3 (by simpa using S4.map) S4.size
                      have hlen' := fun q : Nat => len_map (w := w4.drewN q) (b := M') (es := es) (clock := clock) (d := dcTo ks m) 3 (by simpa using S4.map') S4.size
                      have hd := dcTo_le ks m
                      go_wp2_with fail
                      refine (distinct_any a2 m c2 ks _ ((h2.below hbel4).drewN q) hm).mono ?_
                      rintro e w5 ⟨rfl, q2, hw5⟩
                      obtain ⟨q3, hq3⟩ : ∃ q3, w5 = w4.drewN q3 := ⟨q + q2, by rw [hw5, World.drewN_drewN]⟩
                      subst hq3
                      clear hw5
                      have r0 := S4.r0
                      have r1 := S4.r1
                      have r2 := S4.r2
                      have hd1 : decide ((j : Int) < 0) = false := by simp
                      have hd2 : decide ((n : Int) ≤ (j : Int)) = false := by simp; omega
                      go_wp2_with fail
                      go_loop [191] (fun i => ∃ k : Nat, k ≤ n ∧ i = .int .i64 k) (fun i => n - (intOf i).toNat)
                      case atStart => exact ⟨0, Nat.zero_le _, rfl⟩
                      case round =>
                        obtain ⟨k, hk, rfl⟩ := hrel
                        by_cases hlt : k < n
                        · have hcin := hrow4.cell hlt
                          have hnew := S4.new k hlt
                          generalize zs.getD k 0 = z at *
                          clear S4 hrow4 hlen hlen' hd hseen hd1 hd2
                          by_cases hkj : k = j
                          · subst hkj
                            rw [if_pos rfl] at hnew
                            go_wp2
                            go_round
                            case rel => exact ⟨k + 1, by omega, by go_num⟩
                            case measure => simp [intOf]; omega
                          · rw [if_neg hkj] at hnew
                            have hkb : ((k : Int) == (j : Int)) = false := by simp; omega
                            go_wp2
                            go_round
                            case rel => exact ⟨k + 1, by omega, by go_num⟩
                            case measure => simp [intOf]; omega
                        · have hkn : n = k := by omega
                          subst hkn
                          clear hlt hk
                          go_wp2_with fail
                          go_loop [218] (fun i => ∃ k : Nat, k ≤ m ∧ i = .int .i64 k) (fun i => m - (intOf i).toNat)
                          case atStart => exact ⟨0, Nat.zero_le _, rfl⟩
                          case round =>
                            obtain ⟨k, hk, rfl⟩ := hrel
                            by_cases hlt : k < m
                            · have hik := h2.idx c2 k hlt
                              have hck := (h2.below hbel4).cell k hlt
                              obtain ⟨ge, hge, hlook⟩ := (S4.good.below (belowN (q := q3) (Below.refl _ w4))).yes (M := M') (clock := clock) (by simpa using S4.map') (a := ks.getD k 0) (mem_take (by omega) hlt) (S4.wfk (mem_take (by omega) hlt))
                              have hch : w4.cell? ⟨ge, 0, none⟩ = some (.string ⟨#[104]⟩) := by
                                have := cell_of_row (w4.drewN q3) ge 0 _ _ _ hge
                                simpa using this
                              generalize ks.getD k 0 = z at *
                              clear S4 hrow4 hlen hlen' hd hseen hd1 hd2 hge
                              go_wp2
                              go_round
                              case rel => exact ⟨k + 1, by omega, by go_num⟩
                              case measure => simp [intOf]; omega
                            · have hkm : m = k := by omega
                              subst hkm
                              clear hlt hk
                              have hnj := S4.new j hj
                              rw [if_pos rfl] at hnj
                              have hnf := S4.newf j
                              have HS : Hid (MovedAt w w4 num gid n j g cap M' w3.heap.size zs ks m es clock) := S4
                              clear S4 hlen hlen' hd hrow4
                              go_wp2_with fail
                              obtain ⟨w6, hw6⟩ : ∃ w6, w6 = (w4.drewN q3).setCell ⟨g, j, none⟩ (.int .u64 (IntKind.u64.wrap (gid + 1))) := ⟨_, rfl⟩
                              rw [← hw6]
                              have S6 := stored_facts hw6 HS.out hj
                              clear hw6 hnj hnf HS r0 r1 r2
                              have hik := h1.idx c1 j hj
                              have hck := (h1.below S6.bel).cell j hj
                              have hcin := S6.row
                              have r2 := S6.r2
                              have HK : Hid (Below w.heap.size w w6 ∧ w6.heap[w.heap.size + 1]? = some (.map es clock) ∧ w6.heap[M']? = some (.map es clock) ∧ w.heap.size + 1 < M' ∧ es.size = dcTo ks m ∧ Good w6 es ks m) := ⟨S6.bel, S6.map, S6.map', S6.MN, S6.size, S6.good⟩
                              clear S6 hbel4
                              generalize zs.getD j 0 = z at *
                              go_quiet (fail)
                              obtain ⟨w7, hdel, hbel7, hmap7⟩ := drop_facts nq HK.out wgid
                              have hlen7 := len_map (d := dcTo ks m) 3 hmap7 HK.out.2.2.2.2.1
                              have hd := dcTo_le ks m
                              clear HK hmap7
                              go_wp2_with fail
                              refine (distinct_any a2 m c2 ks _ (h2.below hbel7) hm).mono ?_
                              rintro e w8 ⟨rfl, q8, rfl⟩
                              clear hlen7 hdel
                              go_wp2
                              go_ret
                              exact ⟨by simp, belowN hbel7⟩

set_option maxRecDepth 100000 in
/-- A slice of more than 1024: the law says true at once. -/
theorem law_big (num shard sel raw : Int) (a1 a2 : Option Addr) (n c1 m c2 : Nat) (w : World) (hb : 1024 < n ∨ 1024 < m) (hn : n ≤ maxLen) (hm : m ≤ maxLen) :
    Calls Ybaf.prog 3 #[.int .i64 num, .slice a1 n c1, .slice a2 m c2, .int .i64 shard, .int .u8 sel, .int .u64 raw] w fun e w' => e = .returned (.bool true) ∧ Below w.heap.size w w' := by
  unfold maxLen at hn hm
  by_cases h1 : 1024 < n
  · have hb1 : decide ((1024 : Int) < (n : Int)) = true := by simp; omega
    go_enter Ybaf.func3, Ybaf.ntmps3
    go_wp2
    go_ret
    exact ⟨rfl, Below.refl _ _⟩
  · have hb1 : decide ((1024 : Int) < (n : Int)) = false := by simp; omega
    have hb2 : decide ((1024 : Int) < (m : Int)) = true := by simp; omega
    go_enter Ybaf.func3, Ybaf.ntmps3
    go_wp2
    go_ret
    exact ⟨rfl, Below.refl _ _⟩
end Go.Proofs.YbulkcoroFmt.Move

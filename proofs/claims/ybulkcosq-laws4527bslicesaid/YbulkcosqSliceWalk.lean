/- OUR OWN TEXT. LawS4527BSlice (3): the walk. -/
import Derived.Test.YbulkcosqGroup
import Derived.Laws.CopyOwn
namespace Go.Proofs.Ybulkcosq.Slice
open Go.RowKit Go.Proofs.Ybulkcosq.Own

theorem info3 : (Yba.prog.info? 3).map (fun i => (i.zero, i.size, i.bytes)) = some (some (.int .i64 0), 1, 8) := by kernel_rfl
theorem info5 : (Yba.prog.info? 5).map (fun i => (i.zero, i.size, i.bytes)) = some (some (.int .u8 0), 1, 1) := by kernel_rfl
theorem size26 (w : World) : (sizeOf 26).run Yba.prog w = .ok 3 w := by kernel_rfl

/-- The bounds of a group, as the law draws them. -/
def loOf (L : Nat) (A B : Int) : Int := if B % (L + 1) < A % (L + 1) then B % (L + 1) else A % (L + 1)
def hiOf (L : Nat) (A B : Int) : Int := if B % (L + 1) < A % (L + 1) then A % (L + 1) else B % (L + 1)

/-- The match after k spans. -/
def mOf (L : Nat) (SA SB : Nat → Int) (SS : Nat → Bool) : Nat → List Int
  | 0 => [0, (L : Int)]
  | k + 1 => mOf L SA SB SS k ++ if SS k then [-1, -1] else [loOf L (SA k) (SB k), hiOf L (SA k) (SB k)]

theorem mOf_len (L : Nat) (SA SB : Nat → Int) (SS : Nat → Bool) (k : Nat) : (mOf L SA SB SS k).length = 2 * k + 2 := by
  induction k with
  | zero => rfl
  | succ k ih => simp only [mOf, List.length_append, ih]; split <;> simp <;> omega

/-- A slice of spans that came in. -/
structure Spans (w : World) (a : Option Addr) (len : Nat) (SA SB : Nat → Int) (SS : Nat → Bool) : Prop where
  addr : 0 < len → a.isSome = true
  c0 : ∀ i, i < len → w.cell? (cellOf a (i * 3)) = some (.int .u16 (SA i))
  c1 : ∀ i, i < len → w.cell? (cellOf a (i * 3 + 1)) = some (.int .u16 (SB i))
  c2 : ∀ i, i < len → w.cell? (cellOf a (i * 3 + 2)) = some (.bool (SS i))
  bA : ∀ i, i < len → 0 ≤ SA i ∧ SA i ≤ 65535
  bB : ∀ i, i < len → 0 ≤ SB i ∧ SB i ≤ 65535

theorem Spans.idx {w : World} {a : Option Addr} {len : Nat} {SA SB : Nat → Int} {SS : Nat → Bool} (h : Spans w a len SA SB SS) (cap i : Nat) (hi : i < len) (w' : World) :
    (Instr.indexAt 22 (.slice a len cap) (.int .i64 i)).run Yba.prog w' = .ok (.pointer (some (cellOf a (i * 3)))) w' :=
  run_index_in Yba.underlying22 size26 (h.addr (by omega)) hi w'

theorem Spans.below {w w' : World} {a : Option Addr} {len : Nat} {SA SB : Nat → Int} {SS : Nat → Bool} (h : Spans w a len SA SB SS) (hb : Below w.heap.size w w') : Spans w' a len SA SB SS :=
  ⟨h.addr, fun i hi => (hb.cell (lt_of_cell (h.c0 i hi))).trans (h.c0 i hi), fun i hi => (hb.cell (lt_of_cell (h.c1 i hi))).trans (h.c1 i hi), fun i hi => (hb.cell (lt_of_cell (h.c2 i hi))).trans (h.c2 i hi), h.bA, h.bB⟩

theorem cell_of_alloc2 (w : World) (o1 o2 : Obj) : ((w.alloc o1).alloc o2).heap[w.heap.size + 1]? = some o2 := by
  have := cell_of_alloc (w.alloc o1) o2
  simpa using this

theorem own_step {w' : World} {N L c k : Nat} {SA SB : Nat → Int} {SS : Nat → Bool} {x y : Int} (h : w'.ownsRow N 3 1 (.slice (some ⟨N, 0, none⟩) (2 * k + 2 + 2) c) (2 * k + 2 + 2) ((mOf L SA SB SS k).map (Value.int .i64) ++ [.int .i64 x, .int .i64 y]))
    (e : 2 * k + 2 + 2 = 2 * (k + 1) + 2) (hm : mOf L SA SB SS (k + 1) = mOf L SA SB SS k ++ [x, y]) : w'.ownsRow N 3 1 (.slice (some ⟨N, 0, none⟩) (2 * (k + 1) + 2) c) (2 * (k + 1) + 2) ((mOf L SA SB SS (k + 1)).map (Value.int .i64)) := by
  rw [← e, hm, List.map_append]
  exact h

theorem step_below {w wr w' : World} {o1 o2 : Obj} (hb : Below w.heap.size w wr) (hg : ((wr.alloc o1).alloc o2).grownBy w' (some w.heap.size)) : Below w.heap.size w w' :=
  ((hb.alloc hb.size _).alloc (by have := hb.size; simp; omega) _).grown hg (by have := hb.size; simp; omega) (by simp)

theorem copy_src {wr : World} {N n c : Nat} {M : List Int} {o : Obj} (h : wr.ownsRow N 3 1 (.slice (some ⟨N, 0, none⟩) n c) n (M.map (Value.int .i64))) : ∀ j v, (M.map (Value.int .i64))[j]? = some v → (wr.alloc o).cell? ((⟨N, 0, none⟩ : Addr).add j) = some v := by
  intro j v hj
  have hadd : (⟨N, 0, none⟩ : Addr).add j = ⟨N, j, none⟩ := by unfold Addr.add; split <;> simp_all
  rw [hadd]
  rcases (h.alloc o).2 with ⟨h0, _⟩ | ⟨g, cap, cur, hv, _, hg, _, _, _, htk⟩
  · cases h0
  · simp only [Value.slice.injEq, Option.some.injEq, Addr.mk.injEq, and_true, true_and] at hv
    obtain ⟨rfl, rfl⟩ := hv
    rw [cell_of_row _ _ _ _ _ _ hg]
    have hl := h.1
    rw [← htk, List.getElem?_take] at hj
    split at hj
    · simpa using hj
    · cases hj

/-- 'copy(before, m)', before just made. -/
theorem copy_fact {wr : World} {N n c : Nat} {M : List Int} {cur : List Value} (h : wr.ownsRow N 3 1 (.slice (some ⟨N, 0, none⟩) (2 * n + 2) c) (2 * n + 2) (M.map (Value.int .i64))) (hml : M.length = 2 * n + 2) (hcl : cur.length = 2 * n + 2) :
    ∃ w5, (Builtin.copy_ #[24, 24] 3 #[.slice (some ⟨wr.heap.size, 0, none⟩) (2 * n + 2) (2 * n + 2), .slice (some ⟨N, 0, none⟩) (2 * n + 2) c]).run Yba.prog (wr.alloc (.cells cur.toArray 3)) = .ok (goInt ((2 * n + 2 : Nat) : Int)) w5 ∧
      Below wr.heap.size wr w5 ∧ w5.heap[wr.heap.size]? = some (.cells (M.map (Value.int .i64)).toArray 3 (0, 0)) ∧ w5.heap.size = wr.heap.size + 1 := by
  have hg : (wr.alloc (.cells cur.toArray 3)).heap[wr.heap.size]? = some (.cells cur.toArray 3 (0, 0)) := cell_of_alloc wr _
  have hrun := run_copy_row (P := Yba.prog) (wr.alloc (.cells cur.toArray 3)) 24 24 3 3 wr.heap.size 0 (2 * n + 2) (2 * n + 2) ⟨N, 0, none⟩ (2 * n + 2) c cur.toArray 3 (M.map (Value.int .i64)) Yba.underlying24 (by kernel_rfl) hg (by simp [hml]) (copy_src h) (by simp [hml, hcl]) (ints_oneCell .i64 M)
  refine ⟨_, by rw [hrun, List.length_map, hml], ?_, ?_, by simp⟩
  · exact below_setRow ((Below.refl _ _).alloc (Nat.le_refl _) _) (Nat.le_refl _) _
  · rw [setRow_heap _ _ _ _ _ _ hg]
    congr 2
    simp [hcl]

/-- The cells of 'm' and of 'before', behind the copy. -/
theorem facts5 {w wr w5 : World} {n c : Nat} {M : List Int} (h : wr.ownsRow w.heap.size 3 1 (.slice (some ⟨w.heap.size, 0, none⟩) (2 * n + 2) c) (2 * n + 2) (M.map (Value.int .i64))) (hb5 : Below wr.heap.size wr w5)
    (hrow : w5.heap[wr.heap.size]? = some (.cells (M.map (Value.int .i64)).toArray 3 (0, 0))) (hml : M.length = 2 * n + 2) :
    (∀ i, i < 2 * n + 2 → w5.cell? ⟨w.heap.size, i, none⟩ = some (.int .i64 (M.getD i 0))) ∧ (∀ i, i < 2 * n + 2 → w5.cell? ⟨wr.heap.size, i, none⟩ = some (.int .i64 (M.getD i 0))) := by
  have hM : ∀ i, i < 2 * n + 2 → (M.map (Value.int .i64))[i]? = some (.int .i64 (M.getD i 0)) := fun i hi => by
    have : i < M.length := by omega
    simp [List.getD, this]
  constructor
  · intro i hi
    rcases h.2 with ⟨h0, _⟩ | ⟨g, cap, cur, hv, _, hg, _, _, _, htk⟩
    · cases h0
    · simp only [Value.slice.injEq, Option.some.injEq, Addr.mk.injEq, and_true, true_and] at hv
      obtain ⟨rfl, rfl⟩ := hv
      have hg5 : w5.heap[w.heap.size]? = some (.cells cur 3 (0, 0)) := by rw [hb5.block _ (Array.getElem?_eq_some_iff.1 hg).1]; exact hg
      rw [cell_of_row _ _ _ _ _ _ hg5, ← hM i hi, ← htk, List.getElem?_take, if_pos (by omega)]
      simp
  · intro i hi
    rw [cell_of_row _ _ _ _ _ _ hrow, ← hM i hi]
    simp

theorem mod_bd (L : Nat) (A : Int) : 0 ≤ A % ((L : Int) + 1) ∧ A % ((L : Int) + 1) ≤ L := by
  have h1 := Int.emod_nonneg A (show ((L : Int) + 1) ≠ 0 by omega)
  have h2 := Int.emod_lt_of_pos A (show (0 : Int) < (L : Int) + 1 by omega)
  omega

/-- Each group of the match: nothing, or bounds in the text. -/
theorem mOf_pair {L : Nat} {SA SB : Nat → Int} {SS : Nat → Bool} {n : Nat} (_hA : ∀ i, i < n → 0 ≤ SA i ∧ SA i ≤ 65535) (_hB : ∀ i, i < n → 0 ≤ SB i ∧ SB i ≤ 65535) : ∀ k, k ≤ n → ∀ j, j ≤ k →
    ((mOf L SA SB SS k).getD (2 * j) 0 = -1 ∧ (mOf L SA SB SS k).getD (2 * j + 1) 0 = -1) ∨ ∃ lo hi : Nat, (mOf L SA SB SS k).getD (2 * j) 0 = lo ∧ (mOf L SA SB SS k).getD (2 * j + 1) 0 = hi ∧ lo ≤ hi ∧ hi ≤ L := by
  intro k
  induction k with
  | zero =>
    intro _ j hj
    have : j = 0 := by omega
    subst this
    exact Or.inr ⟨0, L, rfl, rfl, Nat.zero_le _, Nat.le_refl _⟩
  | succ k ih =>
    intro hk j hj
    have hl := mOf_len L SA SB SS k
    by_cases hjk : j ≤ k
    · have e0 : (mOf L SA SB SS (k + 1)).getD (2 * j) 0 = (mOf L SA SB SS k).getD (2 * j) 0 := by
        rw [mOf, List.getD, List.getElem?_append_left (by omega)]; rfl
      have e1 : (mOf L SA SB SS (k + 1)).getD (2 * j + 1) 0 = (mOf L SA SB SS k).getD (2 * j + 1) 0 := by
        rw [mOf, List.getD, List.getElem?_append_left (by omega)]; rfl
      rw [e0, e1]
      exact ih (by omega) j hjk
    · have hj' : j = k + 1 := by omega
      subst hj'
      have e0 : ∀ x y : Int, ((mOf L SA SB SS k) ++ [x, y]).getD (2 * (k + 1)) 0 = x := fun x y => by
        rw [List.getD, List.getElem?_append_right (by omega), hl]
        simp [show 2 * (k + 1) - (2 * k + 2) = 0 by omega]
      have e1 : ∀ x y : Int, ((mOf L SA SB SS k) ++ [x, y]).getD (2 * (k + 1) + 1) 0 = y := fun x y => by
        rw [List.getD, List.getElem?_append_right (by omega), hl]
        simp [show 2 * (k + 1) + 1 - (2 * k + 2) = 1 by omega]
      rw [mOf]
      cases SS k
      · have a0 := mod_bd L (SA k)
        have b0 := mod_bd L (SB k)
        refine Or.inr ⟨(loOf L (SA k) (SB k)).toNat, (hiOf L (SA k) (SB k)).toNat, ?_, ?_, ?_, ?_⟩
        · rw [if_neg (by simp), e0]; unfold loOf; split <;> omega
        · rw [if_neg (by simp), e1]; unfold hiOf; split <;> omega
        · unfold loOf hiOf; split <;> omega
        · unfold hiOf; split <;> omega
      · exact Or.inl ⟨by rw [if_pos rfl, e0], by rw [if_pos rfl, e1]⟩

/-- k bytes of the text, from lo on. -/
def bl (text : ByteArray) (lo k : Nat) : List UInt8 := (text.data.toList.drop lo).take k

theorem bl_len (text : ByteArray) (lo k : Nat) (h : lo + k ≤ text.size) : (bl text lo k).length = k := by
  have : text.data.toList.length = text.size := by rw [Array.length_toList]; rfl
  simp only [bl, List.length_take, List.length_drop]; omega

theorem bl_step (text : ByteArray) (lo k : Nat) (h : lo + k < text.size) : bl text lo (k + 1) = bl text lo k ++ [text[lo + k]] := by
  have hl : lo + k < text.data.toList.length := by rw [Array.length_toList]; exact h
  unfold bl
  rw [List.take_succ_eq_append_getElem (by simp; simpa using (by omega : k < text.data.toList.length - lo))]
  congr 1
  simp
  rfl

theorem bl_all (text : ByteArray) (lo hi : Nat) (h : lo ≤ hi) : (⟨(bl text lo (hi - lo)).toArray⟩ : ByteArray) = text.extract lo hi := by
  apply ByteArray.ext
  apply Array.ext'
  simp [bl, List.take_drop, show lo + (hi - lo) = hi by omega]

theorem conv_nil (w : World) : (convert 31 9 (.slice none 0 0)).run Yba.prog w = .ok (.string ⟨#[]⟩) w := by kernel_rfl

theorem conv_own {w : World} {base lo n : Nat} {v : Value} {text : ByteArray} (h : w.ownsRow base 5 1 v n ((bl text lo n).map fun b => .int .u8 (b.toNat : Int))) :
    (convert 31 9 v).run Yba.prog w = .ok (.string ⟨(bl text lo n).toArray⟩) w := by
  have hl : (bl text lo n).length = n := by have := h.1; simpa using this
  rcases h.2 with ⟨rfl, h0⟩ | ⟨g, cap, cur, rfl, _, hg, _, _, _, htk⟩
  · have he : bl text lo n = [] := List.eq_nil_of_length_eq_zero (by omega)
    rw [he]; exact conv_nil w
  · have := run_convert_bytes_back (P := Yba.prog) w 31 9 5 ⟨g, 0, none⟩ cap (bl text lo n) Yba.underlying31 Yba.underlying5 Yba.underlying9 (fun j hj => by
      refine (World.news_of_block hg j _ ?_)
      have hj' : j < n := by omega
      have h1 : ((bl text lo n).map fun b => Value.int .u8 (b.toNat : Int))[j]? = some (.int .u8 ((bl text lo n)[j].toNat : Int)) := by simp [hj]
      rw [← htk, List.getElem?_take, if_pos (by omega)] at h1
      exact h1)
    rw [hl] at this
    exact this

theorem bl_own {w1 : World} {base lo k : Nat} {v' : Value} {text : ByteArray} {c : UInt8} (h : w1.ownsRow base 5 1 v' (k - lo + 1) (((bl text lo (k - lo)).map fun b => Value.int .u8 (b.toNat : Int)) ++ [.int .u8 (c.toNat : Int)])) (hk : lo ≤ k)
    (hb : bl text lo (k + 1 - lo) = bl text lo (k - lo) ++ [c]) : w1.ownsRow base 5 1 v' (k + 1 - lo) ((bl text lo (k + 1 - lo)).map fun b => .int .u8 (b.toNat : Int)) := by
  rw [hb, show k + 1 - lo = k - lo + 1 by omega, List.map_append]
  exact h

theorem bl_below {w6 wr w1 : World} {v : Value} {n : Nat} {xs : List Value} {o : Obj} (hb : Below w6.heap.size w6 wr) (hg : (wr.alloc o).grownBy w1 v.ownBlock) (hown : wr.ownsRow w6.heap.size 5 1 v n xs) : Below w6.heap.size w6 w1 := by
  refine (hb.alloc hb.size _).grown hg (by have := hb.size; simp; omega) (fun k hk => ?_)
  rcases hown.2 with ⟨h, _⟩ | ⟨g, cap, cur, hv, hge, _⟩
  · rw [h] at hk; simp [Value.ownBlock] at hk
  · rw [hv] at hk; simp [Value.ownBlock] at hk; omega

set_option maxRecDepth 100000 in
set_option maxHeartbeats 4000000 in
theorem law_main (text : ByteArray) (g : Int) (a : Option Addr) (n cap : Nat) (SA SB : Nat → Int) (SS : Nat → Bool) (w : World) (h : Spans w a n SA SB SS) (hn : n ≤ 1024) (ht : text.size ≤ 65536) (hg : 0 ≤ g ∧ g ≤ 65535) :
    Calls Yba.prog 3 #[.string text, .slice a n cap, .int .u16 g] w fun e w' => e = .returned (.bool true) ∧ Below w.heap.size w w' := by
  obtain ⟨i0, hi, hz0, hz1, hz2⟩ := info_parts info3
  have hb1 : decide ((1024 : Int) < (n : Int)) = false := by simp; omega
  have hb2 : decide ((65536 : Int) < (text.size : Int)) = false := by simp; omega
  go_enter Yba.func3, Yba.ntmps3
  go_wp2_with (first
    | (at_make; refine wpList_make_own _ rfl _ _ 24 rfl w.heap.size 3 i0 (.int .i64 0) 1 Yba.underlying24 hi hz0 hz1 .i64 .i64 _ (2 * (n + 1)) rfl rfl (by omega) (by rw [hz2]; omega) (by unfold maxLen; omega) (Nat.le_refl _) ?_; intro w1 hown1 hgrow1)
    | (at_builtin; refine wpList_append_fits _ rfl (.tmp 36) (.tmp 39) 24 rfl w.heap.size 3 i0 1 Yba.underlying24 hi hz1 w.heap.size 0 (2 * (n + 1)) [] rfl (hown1.alloc _) ⟨w1.heap.size, 0, none⟩ 2 2 [.int .i64 0, .int .i64 text.size] rfl rfl (World.news_of_block (cell_of_alloc w1 _)) (ints_oneCell .i64 [0, (text.size : Int)]) (by omega) ?_; intro w2 hown2 hgrow2))
  have hbel2 : Below w.heap.size w w2 := (((Below.refl _ w).grown hgrow1 (Nat.le_refl _) (by simp)).alloc hgrow1.size _).grown hgrow2 (by have := hgrow1.size; simp; omega) (by simp)
  have hown0 : w2.ownsRow w.heap.size 3 1 (.slice (some ⟨w.heap.size, 0, none⟩) (2 * 0 + 2) (2 * (n + 1))) (2 * 0 + 2) ((mOf text.size SA SB SS 0).map (Value.int .i64)) := hown2
  clear hown1 hgrow1 hown2 hgrow2
  go_loopw [8, 43] (fun m i wr => ∃ k : Nat, k ≤ n ∧ i = .int .i64 k ∧ m = .slice (some ⟨w.heap.size, 0, none⟩) (2 * k + 2) (2 * (n + 1)) ∧ wr.ownsRow w.heap.size 3 1 (.slice (some ⟨w.heap.size, 0, none⟩) (2 * k + 2) (2 * (n + 1))) (2 * k + 2) ((mOf text.size SA SB SS k).map (Value.int .i64)) ∧ Below w.heap.size w wr) (fun _ i _ => n - (intOf i).toNat)
  case atStart => exact ⟨0, Nat.zero_le _, rfl, rfl, hown0, hbel2⟩
  case round =>
    clear hown0 hbel2
    obtain ⟨k, hk, rfl, rfl, hown, hbel⟩ := hrel
    by_cases hlt : k < n
    · have hik := h.idx cap k hlt
      have hc0 := (h.below hbel).c0 k hlt
      have hc1 := (h.below hbel).c1 k hlt
      have hc2 := (h.below hbel).c2 k hlt
      have hbA := h.bA k hlt
      have hbB := h.bB k hlt
      have hca1 := cellOf_add a (k * 3) 1
      have hca2 := cellOf_add a (k * 3) 2
      have e2 : 2 * k + 2 + 2 = 2 * (k + 1) + 2 := by omega
      have hsz := hbel.size
      cases hS : SS k
      · rw [hS] at hc2
        have HM : Hid (mOf text.size SA SB SS (k + 1) = mOf text.size SA SB SS k ++ [loOf text.size (SA k) (SB k), hiOf text.size (SA k) (SB k)]) := by show _ = _; rw [mOf, hS]; rfl
        generalize SA k = A at *
        generalize SB k = B at *
        have hA0 := hbA.1
        have hA1 := hbA.2
        have hB0 := hbB.1
        have hB1 := hbB.2
        clear hbA hbB hS
        by_cases hsw : B % ((text.size : Int) + 1) < A % ((text.size : Int) + 1)
        · have HM2 : Hid (mOf text.size SA SB SS (k + 1) = mOf text.size SA SB SS k ++ [B % ((text.size : Int) + 1), A % ((text.size : Int) + 1)]) := by show _ = _; rw [HM.out, loOf, hiOf, if_pos hsw, if_pos hsw]
          go_wp2_with (at_builtin; refine wpList_append_fits _ rfl (.tmp 71) (.tmp 74) 24 rfl w.heap.size 3 i0 1 Yba.underlying24 hi hz1 w.heap.size (2 * k + 2) (2 * (n + 1)) _ rfl ((hown.alloc _).alloc _) ⟨wr.heap.size + 1, 0, none⟩ 2 2 [.int .i64 (B % ((text.size : Int) + 1)), .int .i64 (A % ((text.size : Int) + 1))] rfl rfl (World.news_of_block (cell_of_alloc2 wr _ _)) (ints_oneCell .i64 [_, _]) (by omega) ?_; intro w' hown' hgrow')
          go_roundw
          case rel => exact ⟨k + 1, by omega, by go_num, rfl, own_step hown' e2 HM2.out, step_below hbel hgrow'⟩
          case measure => simp [intOf]; omega
        · have HM2 : Hid (mOf text.size SA SB SS (k + 1) = mOf text.size SA SB SS k ++ [A % ((text.size : Int) + 1), B % ((text.size : Int) + 1)]) := by show _ = _; rw [HM.out, loOf, hiOf, if_neg hsw, if_neg hsw]
          go_wp2_with (at_builtin; refine wpList_append_fits _ rfl (.tmp 71) (.tmp 74) 24 rfl w.heap.size 3 i0 1 Yba.underlying24 hi hz1 w.heap.size (2 * k + 2) (2 * (n + 1)) _ rfl ((hown.alloc _).alloc _) ⟨wr.heap.size + 1, 0, none⟩ 2 2 [.int .i64 (A % ((text.size : Int) + 1)), .int .i64 (B % ((text.size : Int) + 1))] rfl rfl (World.news_of_block (cell_of_alloc2 wr _ _)) (ints_oneCell .i64 [_, _]) (by omega) ?_; intro w' hown' hgrow')
          go_roundw
          case rel => exact ⟨k + 1, by omega, by go_num, rfl, own_step hown' e2 HM2.out, step_below hbel hgrow'⟩
          case measure => simp [intOf]; omega
      · rw [hS] at hc2
        have HM : Hid (mOf text.size SA SB SS (k + 1) = mOf text.size SA SB SS k ++ [-1, -1]) := by show _ = _; rw [mOf, hS]; rfl
        generalize SA k = A at *
        generalize SB k = B at *
        clear hbA hbB hS
        go_wp2_with (at_builtin; refine wpList_append_fits _ rfl (.tmp 49) (.tmp 50) 24 rfl w.heap.size 3 i0 1 Yba.underlying24 hi hz1 w.heap.size (2 * k + 2) (2 * (n + 1)) _ rfl ((hown.alloc _).alloc _) ⟨wr.heap.size + 1, 0, none⟩ 2 2 [.int .i64 (-1), .int .i64 (-1)] rfl rfl (World.news_of_block (cell_of_alloc2 wr _ _)) (ints_oneCell .i64 [-1, -1]) (by omega) ?_; intro w' hown' hgrow')
        go_roundw
        case rel => exact ⟨k + 1, by omega, by go_num, rfl, own_step hown' e2 HM.out, step_below hbel hgrow'⟩
        case measure => simp [intOf]; omega
    · have hkn : n = k := by omega
      subst hkn
      clear hlt hk hb1 hb2
      have hml := mOf_len text.size SA SB SS n
      have hmk := run_make_row' (P := Yba.prog) 24 3 (.int .i64 0) 8 Yba.underlying24 info3 rfl .i64 .i64 (2 * n + 2) (by omega) (by omega)
      rw [show ((2 * n + 2 : Nat) : Int) = 2 * (n : Int) + 2 from by omega] at hmk
      obtain ⟨cur, hcur, hcurl⟩ : ∃ cur : List Value, (madeCells #[Value.int .i64 0] (2 * n + 2)) = cur.toArray ∧ cur.length = 2 * n + 2 := ⟨(madeCells #[Value.int .i64 0] (2 * n + 2)).toList, by simp, by simp [size_madeCells]⟩
      rw [hcur] at hmk
      clear hcur
      obtain ⟨w5, hcopy, hb5, hrow5, hsz5⟩ := copy_fact (n := n) hown hml hcurl
      obtain ⟨j, hj⟩ : ∃ j : Nat, g % ((n : Int) + 1) = j := ⟨_, (Int.toNat_of_nonneg (Int.emod_nonneg _ (by omega))).symm⟩
      have hjn : j ≤ n := by have := Int.emod_lt_of_pos g (show (0 : Int) < (n : Int) + 1 by omega); omega
      have hpair := mOf_pair (L := text.size) (SA := SA) (SB := SB) (SS := SS) (fun i hi => h.bA i hi) (fun i hi => h.bB i hi) n (Nat.le_refl _) j hjn
      have F5 := facts5 hown hb5 hrow5 hml
      have hbel5 : Below w.heap.size w w5 := hbel.trans (hb5.mono hbel.size)
      have hMl : (mOf text.size SA SB SS n).length = 2 * n + 2 := hml
      generalize mOf text.size SA SB SS n = M at *
      clear hown hbel hb5 hrow5 hcurl hml
      have hszw := hbel5.size
      have hwr : w.heap.size < w5.heap.size := lt_of_cell (F5.1 0 (by omega))
      have hbel6 : Below w.heap.size w (w5.alloc (.cells #[.string text, .slice none 0 0] 29)) := hbel5.alloc hszw _
      have hm6 : ∀ i, i < 2 * n + 2 → (w5.alloc (.cells #[.string text, .slice none 0 0] 29)).cell? ⟨w.heap.size, i, none⟩ = some (.int .i64 (M.getD i 0)) := fun i hi => by
        rw [World.cell?_alloc_lt _ _ _ (by simpa using hwr)]; exact F5.1 i hi
      have hf6 : ∀ i, i < 2 * n + 2 → (w5.alloc (.cells #[.string text, .slice none 0 0] 29)).cell? ⟨wr.heap.size, i, none⟩ = some (.int .i64 (M.getD i 0)) := fun i hi => by
        rw [World.cell?_alloc_lt _ _ _ (by simp; omega)]; exact F5.2 i hi
      have ht6 : (w5.alloc (.cells #[.string text, .slice none 0 0] 29)).cell? ⟨wr.heap.size + 1, 0, none⟩ = some (.string text) := by
        rw [cell_of_row _ _ _ _ _ _ (show (w5.alloc (.cells #[.string text, .slice none 0 0] 29)).heap[wr.heap.size + 1]? = _ by rw [← hsz5]; exact cell_of_alloc w5 _)]; rfl
      have hs6 : wr.heap.size + 1 < (w5.alloc (.cells #[.string text, .slice none 0 0] 29)).heap.size := by simp; omega
      go_wp2_with fail
      generalize (w5.alloc (.cells #[.string text, .slice none 0 0] 29)) = w6 at *
      clear hcopy hmk F5 hbel5 hwr hszw hsz5
      generalize wr.heap.size = Bf at *
      rcases hpair with ⟨hp0, hp1⟩ | ⟨lo, hi', hp0, hp1, hlo, hhi⟩
      · refine (group_none w.heap.size (2 * n + 2) (2 * (n + 1)) j _ w6 (by omega) (by omega) (by rw [hm6 _ (by omega), hp0])).mono ?_
        rintro e w7 ⟨rfl, q7, rfl⟩
        rw [hj]
        have d0 : w6.cell? ⟨Bf, 2 * j, none⟩ = some (.int .i64 (-1)) := by rw [hf6 _ (by omega), hp0]
        have d1 : w6.cell? ⟨Bf, 2 * j + 1, none⟩ = some (.int .i64 (-1)) := by rw [hf6 _ (by omega), hp1]
        have b0 : (0 : Int) ≤ 2 * (j : Int) ∧ 2 * (j : Int) < ((2 * n + 2 : Nat) : Int) := by omega
        have b1 : (0 : Int) ≤ 2 * (j : Int) + 1 ∧ 2 * (j : Int) + 1 < ((2 * n + 2 : Nat) : Int) := by omega
        have cv := conv_nil
        go_wp2
        go_quiet (fail)
        go_wp2_with fail
        go_loopw [21] (fun i wr => ∃ k : Nat, k ≤ 2 * n + 2 ∧ i = .int .i64 k ∧ ∃ q, wr = w6.drewN q) (fun i _ => 2 * n + 2 - (intOf i).toNat)
        case atStart => exact ⟨0, Nat.zero_le _, rfl, _, rfl⟩
        case round =>
          obtain ⟨k, hk, rfl, q, rfl⟩ := hrel
          by_cases hlt : k < 2 * n + 2
          · have g0 := hm6 k hlt
            have g1 := hf6 k hlt
            have hb3 : (0 : Int) ≤ (k : Int) ∧ (k : Int) < ((2 * n + 2 : Nat) : Int) := by omega
            generalize M.getD k 0 = z at *
            go_wp2
            go_quiet (fail)
            go_wp2
            go_roundw
            case rel => exact ⟨k + 1, by omega, by go_num, _, rfl⟩
            case measure => simp [intOf]; omega
          · have hk2 : 2 * n + 2 ≤ k := by omega
            go_wp2
            go_ret
            exact ⟨by simp, belowN hbel6⟩
      · refine (group_some w.heap.size (2 * n + 2) (2 * (n + 1)) j _ lo hi' text w6 (by omega) (by omega) (by rw [hm6 _ (by omega), hp0]) (by rw [hm6 _ (by omega), hp1]) ht6 hlo hhi).mono ?_
        rintro e w7 ⟨rfl, q7, rfl⟩
        rw [hj]
        have d0 : w6.cell? ⟨Bf, 2 * j, none⟩ = some (.int .i64 lo) := by rw [hf6 _ (by omega), hp0]
        have d1 : w6.cell? ⟨Bf, 2 * j + 1, none⟩ = some (.int .i64 hi') := by rw [hf6 _ (by omega), hp1]
        have b0 : (0 : Int) ≤ 2 * (j : Int) ∧ 2 * (j : Int) < ((2 * n + 2 : Nat) : Int) := by omega
        have b1 : (0 : Int) ≤ 2 * (j : Int) + 1 ∧ 2 * (j : Int) + 1 < ((2 * n + 2 : Nat) : Int) := by omega
        have hdlo : decide ((0 : Int) ≤ (lo : Int)) = true := by simp
        go_wp2
        go_quiet (fail)
        go_wp2_with fail
        obtain ⟨v0, hv5, hv0, hv1, hv2⟩ := info_parts info5
        go_loopw [19, 20] (fun v i wr => ∃ k : Nat, lo ≤ k ∧ k ≤ hi' ∧ i = .int .i64 k ∧ wr.ownsRow w6.heap.size 5 1 v (k - lo) ((bl text lo (k - lo)).map fun b => .int .u8 (b.toNat : Int)) ∧ Below w6.heap.size w6 wr) (fun _ i _ => hi' - (intOf i).toNat)
        case atStart => exact ⟨lo, Nat.le_refl _, hlo, rfl, by simp only [Nat.sub_self, bl, List.take_zero, List.map_nil]; exact World.ownsRow_nil _ _ _ _, belowN (Below.refl _ _)⟩
        case round =>
          obtain ⟨k, hk0, hk1, rfl, hown, hbk⟩ := hrel
          by_cases hlt : k < hi'
          · have hks : k < text.size := by omega
            have hsz6 := hbk.size
            have hbs := bl_step text lo (k - lo) (by omega)
            have hbll := bl_len text lo (k - lo) (by omega)
            have HB : Hid (bl text lo (k + 1 - lo) = bl text lo (k - lo) ++ [text[k]]) := by
              show _ = _
              have e : k + 1 - lo = k - lo + 1 := by omega
              rw [e, hbs]
              simp only [show lo + (k - lo) = k from by omega]
            clear hbs
            go_wp2_with (at_builtin; refine wpList_append_own _ rfl _ _ 31 rfl w6.heap.size 5 v0 (.int .u8 0) 1 1 Yba.underlying31 hv5 hv0 hv1 hv2 rfl (by decide) _ _ _ rfl (hown.alloc _) ⟨wr.heap.size, 0, none⟩ 1 1 [.int .u8 (text[k].toNat : Int)] rfl rfl (World.news_of_block (cell_of_alloc wr _)) (ints_oneCell .u8 [_]) (by unfold maxLen; omega) (by omega) (by simp; omega) ?_; intro v' w1 hown' hgrow hnil)
            go_roundw
            case rel => exact ⟨k + 1, by omega, by omega, by go_num, bl_own hown' hk0 HB.out, bl_below hbk hgrow hown⟩
            case measure => simp [intOf]; omega
          · have hkh : k = hi' := by omega
            subst hkh
            have hcv := conv_own hown
            rw [bl_all text lo k hk0] at hcv
            clear hown
            obtain ⟨hc, _⟩ := bcell hbk
            have hm9 : ∀ i, i < 2 * n + 2 → wr.cell? ⟨w.heap.size, i, none⟩ = some (.int .i64 (M.getD i 0)) := fun i hi => by
              rw [hc _ _ (lt_of_cell (hm6 i hi))]; exact hm6 i hi
            have hf9 : ∀ i, i < 2 * n + 2 → wr.cell? ⟨Bf, i, none⟩ = some (.int .i64 (M.getD i 0)) := fun i hi => by
              rw [hc _ _ (lt_of_cell (hf6 i hi))]; exact hf6 i hi
            have ht9 : wr.cell? ⟨Bf + 1, 0, none⟩ = some (.string text) := by rw [hc _ _ (lt_of_cell ht6)]; exact ht6
            have hbel9 : Below w.heap.size w wr := hbel6.trans (hbk.mono hbel6.size)
            clear hc hm6 hf6 ht6 hbel6 hbk
            go_wp2_with fail
            clear hcv
            generalize wr = w9 at *
            go_loopw [21] (fun i wr => ∃ k : Nat, k ≤ 2 * n + 2 ∧ i = .int .i64 k ∧ ∃ q, wr = w9.drewN q) (fun i _ => 2 * n + 2 - (intOf i).toNat)
            case atStart => exact ⟨0, Nat.zero_le _, rfl, 0, rfl⟩
            case round =>
              obtain ⟨k, hk, rfl, q, rfl⟩ := hrel
              by_cases hlt : k < 2 * n + 2
              · have g0 := hm9 k hlt
                have g1 := hf9 k hlt
                have hb3 : (0 : Int) ≤ (k : Int) ∧ (k : Int) < ((2 * n + 2 : Nat) : Int) := by omega
                generalize M.getD k 0 = z at *
                go_wp2
                go_quiet (fail)
                go_wp2
                go_roundw
                case rel => exact ⟨k + 1, by omega, by go_num, _, rfl⟩
                case measure => simp [intOf]; omega
              · have hk2 : 2 * n + 2 ≤ k := by omega
                go_wp2
                go_ret
                exact ⟨by simp, belowN hbel9⟩

set_option maxRecDepth 100000 in
/-- More than 1024 spans, or a text of more than 65536 bytes: the law says true at once. -/
theorem law_big (text : ByteArray) (g : Int) (a : Option Addr) (n cap : Nat) (w : World) (hb : 1024 < n ∨ 65536 < text.size) (hn : n ≤ maxLen) (ht : text.size ≤ maxLen) :
    Calls Yba.prog 3 #[.string text, .slice a n cap, .int .u16 g] w fun e w' => e = .returned (.bool true) ∧ Below w.heap.size w w' := by
  unfold maxLen at hn ht
  by_cases h1 : 1024 < n
  · have hb1 : decide ((1024 : Int) < (n : Int)) = true := by simp; omega
    go_enter Yba.func3, Yba.ntmps3
    go_wp2
    go_ret
    exact ⟨rfl, Below.refl _ _⟩
  · have hb1 : decide ((1024 : Int) < (n : Int)) = false := by simp; omega
    have hb2 : decide ((65536 : Int) < (text.size : Int)) = true := by simp; omega
    go_enter Yba.func3, Yba.ntmps3
    go_wp2
    go_ret
    exact ⟨rfl, Below.refl _ _⟩
end Go.Proofs.Ybulkcosq.Slice

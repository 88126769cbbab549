/- OUR OWN TEXT. LawS4527CTicks (6): the walk. -/
import Derived.Test.YbulkcosqTick
namespace Go.Proofs.Ybulkcosq.Tick
open Go.RowKit Go.Proofs.Ybulkcosq.Own Go.Proofs.Ybulkcosq.Clock

/-- A []byte that came in. -/
structure Bytes (w : World) (a : Option Addr) (n : Nat) (Z : Nat → Int) : Prop where
  addr : 0 < n → a.isSome = true
  cell : ∀ i, i < n → w.cell? (cellOf a i) = some (.int .u8 (Z i))
  lo : ∀ i, i < n → 0 ≤ Z i ∧ Z i ≤ 255

theorem size5 (w : World) : (sizeOf 5).run Yba.prog w = .ok 1 w := by kernel_rfl
theorem Bytes.idx {w : World} {a : Option Addr} {n : Nat} {Z : Nat → Int} (h : Bytes w a n Z) (cap i : Nat) (hi : i < n) (w' : World) : (Instr.indexAt 31 (.slice a n cap) (.int .i64 i)).run Yba.prog w' = .ok (.pointer (some (cellOf a i))) w' := by
  have := run_index_in (P := Yba.prog) (cap := cap) (k := .i64) Yba.underlying31 size5 (h.addr (by omega)) hi w'
  simpa using this
theorem Bytes.below {w w' : World} {a : Option Addr} {n : Nat} {Z : Nat → Int} (h : Bytes w a n Z) (hb : Below w.heap.size w w') : Bytes w' a n Z :=
  ⟨h.addr, fun i hi => (hb.cell (lt_of_cell (h.cell i hi))).trans (h.cell i hi), h.lo⟩

/-- WHERE THE FIRST LOOP STANDS: the tally in block D, the clock's variable in block D + 1, its row behind. -/
structure Tally (w wr : World) (D k : Nat) (T : Nat → Nat) : Prop where
  bel : Below D w wr
  tal : ∃ cs, wr.heap[D]? = some (.cells cs 48 (0, 0)) ∧ ∀ c, c < 8 → cs[c]? = some (.int .u64 (T c : Int))
  st : Stands (D + 1) (D + 2) T wr
  le : ∀ c, T c ≤ k

theorem tally_start (w : World) : Tally w ((w.alloc (.cells #[.int .u64 0, .int .u64 0, .int .u64 0, .int .u64 0, .int .u64 0, .int .u64 0, .int .u64 0, .int .u64 0] 48)).alloc (.cells #[.slice none 0 0] 37)) w.heap.size 0 (fun _ => 0) := by
  refine ⟨((Below.refl _ w).alloc (Nat.le_refl _) _).alloc (by simp) _, ⟨#[.int .u64 0, .int .u64 0, .int .u64 0, .int .u64 0, .int .u64 0, .int .u64 0, .int .u64 0, .int .u64 0], ?_, fun c hc => ?_⟩, ⟨by simp, .slice none 0 0, ?_, ?_⟩, fun _ => Nat.le_refl _⟩
  · rw [Below.heap_alloc _ _ _ (by simp)]; exact cell_of_alloc w _
  · match c with
    | 0 | 1 | 2 | 3 | 4 | 5 | 6 | 7 => rfl
    | c + 8 => omega
  · simpa using cell_of_alloc (w.alloc (.cells #[.int .u64 0, .int .u64 0, .int .u64 0, .int .u64 0, .int .u64 0, .int .u64 0, .int .u64 0, .int .u64 0] 48)) (.cells #[.slice none 0 0] 37)
  · have : seg (fun _ => 0) 0 8 = [] := by decide
    rw [this]; exact World.ownsRow_nil _ _ _ _

theorem nm_extract : ∀ c, c < 8 → (⟨#[97, 98, 99, 100, 101, 102, 103, 104]⟩ : ByteArray).extract c (c + 1) = nm c := by decide +kernel

/-- 'tally[c]++' -/
theorem Tally.stored {w wr : World} {D k : Nat} {T : Nat → Nat} (h : Tally w wr D k T) (c : Nat) :
    Below D w (wr.setCell ⟨D, c, none⟩ (.int .u64 ((T c : Int) + 1))) ∧ (∃ cs, (wr.setCell ⟨D, c, none⟩ (.int .u64 ((T c : Int) + 1))).heap[D]? = some (.cells cs 48 (0, 0)) ∧ ∀ d, d < 8 → cs[d]? = some (.int .u64 (bump T c d : Int))) ∧ Stands (D + 1) (D + 2) T (wr.setCell ⟨D, c, none⟩ (.int .u64 ((T c : Int) + 1))) := by
  obtain ⟨cs, hcs, hat⟩ := h.tal
  obtain ⟨hB, s, hs, hown⟩ := h.st
  refine ⟨h.bel.setCell (Nat.le_refl _) _, ⟨_, heap_setCell_same wr D c cs 48 _ hcs, fun d hd => ?_⟩, ⟨by simpa [World.setCell] using hB, s, ?_, ownsRow_setCell_below hown (by simp) _⟩⟩
  · rw [Array.getElem?_setIfInBounds]
    by_cases he : c = d
    · subst he
      have := (Array.getElem?_eq_some_iff.1 (hat c hd)).1
      simp [this, bump_same]
    · rw [if_neg he, hat d hd, bump_other T c d (fun e => he e.symm)]
  · rw [Below.heap_setCell _ _ _ _ (by simp)]; exact hs

/-- What the second loop reads at the letter i. -/
theorem at_letter (T : Nat → Nat) (i : Nat) (hi : i < 8) : (T i = 0 → (seg T 0 (i + 1)).length = (seg T 0 i).length) ∧
    (T i ≠ 0 → (seg T 0 (i + 1)).length = (seg T 0 i).length + 1 ∧ (seg T 0 i).length < (seg T 0 8).length ∧ let_ (seg T 0 8) (seg T 0 i).length = i ∧ cnt (seg T 0 8) (seg T 0 i).length = T i) := by
  have h := seg_add T 0 i 1
  rw [Nat.zero_add] at h
  refine ⟨fun h0 => ?_, fun h0 => ?_⟩
  · rw [h, seg_one_none h0]; simp
  · have hf := found_yes T i hi h0
    have hlt := (List.getElem?_eq_some_iff.1 hf).1
    rw [get_of_lt _ _ hlt] at hf
    simp only [Option.some.injEq, Prod.mk.injEq] at hf
    exact ⟨by rw [h, seg_one_some h0]; simp, hlt, hf.1, hf.2⟩

/-- WHAT THE SECOND LOOP NEEDS TO KNOW. -/
structure Tail (wr : World) (V m cp : Nat) (ao : Option Addr) (S : Nat → ByteArray) (C : Nat → Int) (J T : Nat → Nat) : Prop where
  ents : Ents wr ao m S C
  var : wr.heap[V]? = some (.cells #[.slice ao m cp] 37 (0, 0))
  m8 : m ≤ 8
  j0 : J 0 = 0
  j8 : J 8 = m
  no : ∀ i, i < 8 → T i = 0 → J (i + 1) = J i
  yes : ∀ i, i < 8 → T i ≠ 0 → J (i + 1) = J i + 1 ∧ J i < m ∧ S (J i) = nm i ∧ C (J i) = (T i : Int)
  jm : ∀ i, i ≤ 8 → J i ≤ m

theorem tail_of {V B : Nat} {T : Nat → Nat} {wr : World} (h : Stands V B T wr) : ∃ m cp ao S C J, Tail wr V m cp ao S C J T := by
  obtain ⟨hB, s0, hs, hown⟩ := h
  obtain ⟨ao, cp, rfl, hE⟩ := ents_of_cells hown
  refine ⟨_, cp, ao, _, _, fun i => (seg T 0 i).length, hE, hs, seg_len T 0 8, rfl, rfl, fun i hi h0 => (at_letter T i hi).1 h0, fun i hi h0 => ?_, fun i hi => ?_⟩
  · obtain ⟨h1, h2, h3, h4⟩ := (at_letter T i hi).2 h0
    exact ⟨h1, h2, congrArg nm h3, congrArg (fun n : Nat => (n : Int)) h4⟩
  · by_cases e : i = 8
    · subst e; exact Nat.le_refl _
    · exact (place T i (by omega)).1

set_option maxRecDepth 100000 in
set_option maxHeartbeats 2000000 in
theorem ticks_main (a : Option Addr) (n cap : Nat) (Z : Nat → Int) (w : World) (h1 : Bytes w a n Z) (hn : n ≤ 1024) :
    Calls Yba.prog 6 #[.slice a n cap] w fun e w' => e = .returned (.bool true) ∧ Below w.heap.size w w' := by
  have hb1 : decide ((1024 : Int) < (n : Int)) = false := by simp; omega
  have hT0 := tally_start w
  obtain ⟨wB, hwB⟩ : ∃ wB, wB = (w.alloc (.cells #[.int .u64 0, .int .u64 0, .int .u64 0, .int .u64 0, .int .u64 0, .int .u64 0, .int .u64 0, .int .u64 0] 48)).alloc (.cells #[.slice none 0 0] 37) := ⟨_, rfl⟩
  rw [← hwB] at hT0
  go_enter Yba.func6, Yba.ntmps6
  go_wp2_with fail
  rw [← hwB]
  clear hwB
  go_loopw [17] (fun x wr => ∃ k : Nat, k ≤ n ∧ x = .int .i64 k ∧ ∃ T, Tally w wr w.heap.size k T) (fun x _ => n - (intOf x).toNat)
  case atStart => exact ⟨0, Nat.zero_le _, rfl, _, hT0⟩
  case round =>
    clear hT0
    obtain ⟨k, hk, rfl, T, hT⟩ := hrel
    by_cases hlt : k < n
    · have hik := h1.idx cap k hlt
      have hz := (h1.below hT.bel).cell k hlt
      have hz0 := (h1.lo k hlt).1
      have hz1 := (h1.lo k hlt).2
      obtain ⟨cs, hcs, hat⟩ := hT.tal
      generalize Z k = z at *
      obtain ⟨c, hc⟩ : ∃ c : Nat, z % 8 = (c : Int) := ⟨(z % 8).toNat, by omega⟩
      have hc8 : c < 8 := by omega
      have e1 : wr.cell? ⟨w.heap.size, c, none⟩ = some (.int .u64 (T c : Int)) := by rw [cell_of_row _ _ _ _ _ _ hcs]; exact hat c hc8
      have e2 : wr.frozen? ⟨w.heap.size, c, none⟩ = false := by simp [World.frozen?, hcs]
      have hTc := hT.le c
      have HT : Hid _ := hT
      obtain ⟨t, ht⟩ : ∃ t, t = T c := ⟨_, rfl⟩
      rw [← ht] at e1 hTc
      have Ht : Hid _ := ht
      clear ht hT hcs hat
      go_wp2_with fail
      rw [nm_extract c hc8]
      obtain ⟨f1, ⟨cs, f2, f3⟩, f4⟩ := HT.out.stored c
      rw [← Ht.out] at f1 f2 f4
      refine Calls.mono (tick12 (w.heap.size + 1) (w.heap.size + 2) c T _ f4 (by omega) hc8 (by have := Ht.out; omega)) ?_
      rintro e w2 ⟨rfl, hS2, hB2⟩
      have HT2 : Tally w w2 w.heap.size (k + 1) (bump T c) := by
        refine ⟨f1.trans (hB2.mono (by omega)), ⟨cs, (hB2.block _ (by omega)).trans f2, f3⟩, hS2, fun d => ?_⟩
        have := HT.out.le d
        unfold bump
        split <;> omega
      clear f1 f2 f3 f4 hS2 hB2
      generalize nm c = s at *
      go_wp2
      go_roundw
      case rel => exact ⟨k + 1, by omega, by go_num, _, HT2⟩
      case measure => simp [intOf]; omega
    · have hkn : n = k := by omega
      subst hkn
      obtain ⟨m, cp, ao, S, C, J, hX⟩ := tail_of hT.st
      obtain ⟨cs, hcs, hat⟩ := hT.tal
      have hTle := hT.le
      have hbw := hT.bel
      have hm8 := hX.m8
      have hVh := hX.var
      have hV : wr.cell? ⟨w.heap.size + 1, 0, none⟩ = some (.slice ao m cp) := by rw [cell_of_row _ _ _ _ _ _ hVh]; rfl
      have hVl := (Array.getElem?_eq_some_iff.1 hVh).1
      have hV2 : ((wr.alloc (.cells #[.slice none 0 0] 33)).alloc (.cells #[.slice none 0 0] 34)).cell? ⟨w.heap.size + 1, 0, none⟩ = some (.slice ao m cp) := by
        rw [World.cell?_alloc_lt _ _ _ (by simp; omega), World.cell?_alloc_lt _ _ _ (by simp; omega)]; exact hV
      have HX : Hid _ := hX
      have HAt : Hid _ := hat
      clear hX hT hat
      go_wp2_with fail
      refine Calls.mono (all_any _ _ ⟨_, _, _, rfl⟩) ?_
      rintro e w2 ⟨rfl, rfl⟩
      have hG0 := (gath_start wr S C).alloc (.cells #[.slice ao m cp] 37)
      have hb3 : (((wr.alloc (.cells #[.slice none 0 0] 33)).alloc (.cells #[.slice none 0 0] 34)).alloc (.cells #[.slice ao m cp] 37)).cell? ⟨wr.heap.size + 1 + 1, 0, none⟩ = some (.slice ao m cp) := by
        have := cell_of_alloc ((wr.alloc (.cells #[.slice none 0 0] 33)).alloc (.cells #[.slice none 0 0] 34)) (.cells #[.slice ao m cp] 37)
        simp only [World.size_alloc] at this
        rw [cell_of_row _ _ _ _ _ _ this]; rfl
      go_wp2_with fail
      generalize (((wr.alloc (.cells #[.slice none 0 0] 33)).alloc (.cells #[.slice none 0 0] 34)).alloc (.cells #[.slice ao m cp] 37)) = w3 at *
      refine Calls.mono (each_any 13 #[.pointer (some ⟨wr.heap.size, 0, none⟩), .pointer (some ⟨wr.heap.size + 1, 0, none⟩)] (wr.heap.size + 1 + 1) m cp ao S C (fun k w' => ∃ v1 v2, Gath wr w' wr.heap.size k S C v1 v2) (fun _ => False) w3 (by omega) enter13 hb3
        (fun k w' ⟨v1, v2, g⟩ => HX.out.ents.below g.bel) ⟨_, _, hG0⟩ (fun k w' hk ⟨v1, v2, g⟩ => (gath13 wr _ wr.heap.size k S C v1 v2 (g.alloc _) (by omega)).mono fun e w' ⟨he, hg⟩ => Or.inl ⟨he, hg⟩)) ?_
      rintro e w5 ⟨rfl, hI⟩
      obtain ⟨v1, v2, g5⟩ : ∃ v1 v2, Gath wr w5 wr.heap.size m S C v1 v2 := hI.resolve_right id
      obtain ⟨b1, d1, rfl, hN⟩ := names_of_own g5.o1
      obtain ⟨b2, d2, rfl, hC⟩ := counts_of_own g5.o2
      have hbel : Below w.heap.size w w5 := hbw.trans (g5.bel.mono (by omega))
      have x7 : w5.cell? ⟨wr.heap.size, 0, none⟩ = some (.slice b1 m d1) := by rw [cell_of_row _ _ _ _ _ _ g5.b1]; rfl
      have x8 : w5.cell? ⟨wr.heap.size + 1, 0, none⟩ = some (.slice b2 m d2) := by rw [cell_of_row _ _ _ _ _ _ g5.b2]; rfl
      have hcs5 := (g5.bel.block _ (by omega)).trans hcs
      clear g5 hI hb3 hG0 hcs hV hVh hV2 h1 hbw
      go_wp2_with fail
      go_loopw [10, 11] (fun x y w' => ∃ i : Nat, i ≤ 8 ∧ x = .int .i64 (J i) ∧ y = .int .i64 i ∧ ∃ q, w' = w5.drewN q) (fun _ y _ => 8 - (intOf y).toNat)
      case atStart => exact ⟨0, Nat.zero_le _, by rw [HX.out.j0]; rfl, rfl, 0, rfl⟩
      case round =>
        obtain ⟨i, hi, rfl, rfl, q, rfl⟩ := hrel
        by_cases hi8 : i < 8
        · have t1 : w5.cell? ⟨w.heap.size, i, none⟩ = some (.int .u64 (T i : Int)) := by rw [cell_of_row _ _ _ _ _ _ hcs5]; exact HAt.out i hi8
          have ht1 := hTle i
          by_cases h0 : T i = 0
          · have hJ : Hid _ := HX.out.no i hi8 h0
            rw [h0] at t1
            go_wp2
            go_roundw
            case rel => exact ⟨i + 1, by omega, by rw [hJ.out], by go_num, _, rfl⟩
            case measure => simp [intOf]; omega
          · obtain ⟨y1, y2, y3, y4⟩ := HX.out.yes i hi8 h0
            have hd0 : ((T i : Int) == 0) = false := by simp; omega
            have hd1 : decide ((m : Int) ≤ (J i : Int)) = false := by simp; omega
            have hd2 : decide (m ≤ J i) = false := by simp; omega
            have i3 := hN.idx d1 (J i) y2
            have i4 := hC.idx d2 (J i) y2
            have s3 := hN.cell (J i) y2
            have s4 := hC.cell (J i) y2
            have hext := nm_extract i hi8
            rw [y3] at s3
            rw [y4] at s4
            have hJ : Hid _ := y1
            have hJm : J i ≤ 8 := by omega
            clear y1 y3 y4
            generalize nm i = s at *
            generalize J i = j at *
            generalize T i = t at *
            clear hN hC
            go_wp2
            go_quiet (fail)
            go_wp2
            go_roundw
            case rel => exact ⟨i + 1, by omega, by rw [hJ.out]; go_num, by go_num, _, rfl⟩
            case measure => simp [intOf]; omega
        · have hi8' : i = 8 := by omega
          subst hi8'
          rw [HX.out.j8]
          go_wp2
          go_ret
          exact ⟨rfl, belowN hbel⟩

set_option maxRecDepth 100000 in
theorem ticks_big (a : Option Addr) (n cap : Nat) (w : World) (hb : 1024 < n) (hn : n ≤ maxLen) :
    Calls Yba.prog 6 #[.slice a n cap] w fun e w' => e = .returned (.bool true) ∧ Below w.heap.size w w' := by
  unfold maxLen at hn
  have hb1 : decide ((1024 : Int) < (n : Int)) = true := by simp; omega
  go_enter Yba.func6, Yba.ntmps6
  go_wp2
  go_ret
  exact ⟨rfl, Below.refl _ _⟩
end Go.Proofs.Ybulkcosq.Tick

/- OUR OWN TEXT. LawS4527CExact (4): the walk. -/
import Derived.Test.YbulkcosqGath
namespace Go.Proofs.Ybulkcosq.Clock
open Go.RowKit Go.Proofs.Ybulkcosq.Own

theorem names_of_own {w : World} {b n : Nat} {v : Value} {S : Nat → ByteArray} (h : w.ownsRow b 9 1 v n (nameCells S n)) : ∃ a c, v = .slice a n c ∧ Names w a n S := by
  rcases h.2 with ⟨rfl, rfl⟩ | ⟨g, cap, cur, rfl, _, hg, hc, _, _, htk⟩
  · exact ⟨none, 0, rfl, ⟨by simp, by simp⟩⟩
  · refine ⟨some ⟨g, 0, none⟩, cap, rfl, ⟨fun _ => rfl, fun i hi => ?_⟩⟩
    have : (nameCells S n)[i]? = some (.string (S i)) := by simp [nameCells, hi]
    rw [← htk, List.getElem?_take, if_pos (by omega)] at this
    exact World.news_of_block hg _ _ this

theorem counts_of_own {w : World} {b n : Nat} {v : Value} {C : Nat → Int} (h : w.ownsRow b 42 1 v n (countCells C n)) : ∃ a c, v = .slice a n c ∧ Counts w a n C := by
  rcases h.2 with ⟨rfl, rfl⟩ | ⟨g, cap, cur, rfl, _, hg, hc, _, _, htk⟩
  · exact ⟨none, 0, rfl, ⟨by simp, by simp⟩⟩
  · refine ⟨some ⟨g, 0, none⟩, cap, rfl, ⟨fun _ => rfl, fun i hi => ?_⟩⟩
    have : (countCells C n)[i]? = some (.int .u64 (C i)) := by simp [countCells, hi]
    rw [← htk, List.getElem?_take, if_pos (by omega)] at this
    exact World.news_of_block hg _ _ this

/-- The gathering begins: two variables laid behind w0. -/
theorem gath_start (w0 : World) (S : Nat → ByteArray) (C : Nat → Int) : Gath w0 ((w0.alloc (.cells #[.slice none 0 0] 33)).alloc (.cells #[.slice none 0 0] 34)) w0.heap.size 0 S C (.slice none 0 0) (.slice none 0 0) := by
  refine ⟨((Below.refl _ w0).alloc (Nat.le_refl _) _).alloc (by simp) _, ?_, ?_, World.ownsRow_nil _ _ _ _, World.ownsRow_nil _ _ _ _⟩
  · rw [Below.heap_alloc _ _ _ (by simp)]; exact cell_of_alloc w0 _
  · have := cell_of_alloc (w0.alloc (.cells #[.slice none 0 0] 33)) (.cells #[.slice none 0 0] 34)
    simpa using this

set_option maxRecDepth 100000 in
set_option maxHeartbeats 2000000 in
theorem exact_main (a1 a2 : Option Addr) (n1 c1 n2 c2 : Nat) (S : Nat → ByteArray) (C : Nat → Int) (w : World) (h1 : Names w a1 n1 S) (h2 : Counts w a2 n2 C) (hn1 : n1 ≤ 1024) (hn2 : n2 ≤ 1024) :
    Calls Yba.prog 4 #[.slice a1 n1 c1, .slice a2 n2 c2] w fun e w' => e = .returned (.bool true) ∧ Below w.heap.size w w' := by
  obtain ⟨n, hn⟩ : ∃ n, Least n n1 n2 := ⟨_, least_min n1 n2⟩
  have hm1 := hn.lit
  have hm2 := hn.nat
  have hl1 := hn.le1
  have hl2 := hn.le2
  have hb1 : decide ((1024 : Int) < (n1 : Int)) = false := by simp; omega
  have hb2 : decide ((1024 : Int) < (n2 : Int)) = false := by simp; omega
  go_enter Yba.func4, Yba.ntmps4
  go_wp2_with fail
  refine (build_any a1 a2 n n1 c1 n2 c2 S C w hn h1 h2 hn1 hn2).mono ?_
  rintro e w1 ⟨ao, cap, rfl, hE, hB1⟩
  clear hm1 hm2
  go_wp2_with fail
  refine (all_any _ _ ⟨_, _, _, rfl⟩).mono ?_
  rintro e w2 ⟨rfl, rfl⟩
  have hP : (w1.alloc (.cells #[.slice ao n cap] 37)).heap.size = w1.heap.size + 1 := by simp
  have hG0 := (gath_start (w1.alloc (.cells #[.slice ao n cap] 37)) S C).alloc (.cells #[.slice ao n cap] 37)
  have hB0 : Below w1.heap.size w1 (w1.alloc (.cells #[.slice ao n cap] 37)) := (Below.refl _ _).alloc (Nat.le_refl _) _
  have hV0 : (w1.alloc (.cells #[.slice ao n cap] 37)).heap[w1.heap.size]? = some (.cells #[.slice ao n cap] 37 (0, 0)) := cell_of_alloc w1 _
  have hb3 : ((((w1.alloc (.cells #[.slice ao n cap] 37)).alloc (.cells #[.slice none 0 0] 33)).alloc (.cells #[.slice none 0 0] 34)).alloc (.cells #[.slice ao n cap] 37)).cell? ⟨w1.heap.size + 1 + 1 + 1, 0, none⟩ = some (.slice ao n cap) := by
    have := cell_of_alloc (((w1.alloc (.cells #[.slice ao n cap] 37)).alloc (.cells #[.slice none 0 0] 33)).alloc (.cells #[.slice none 0 0] 34)) (.cells #[.slice ao n cap] 37)
    simp only [World.size_alloc] at this
    rw [cell_of_row _ _ _ _ _ _ this]; rfl
  rw [hP] at hG0
  go_wp2_with fail
  generalize hw0 : w1.alloc (.cells #[.slice ao n cap] 37) = w0 at *
  have hE0 : Ents w0 ao n S C := hE.below hB0
  generalize (((w0.alloc (.cells #[.slice none 0 0] 33)).alloc (.cells #[.slice none 0 0] 34)).alloc (.cells #[.slice ao n cap] 37)) = w3 at *
  clear hw0
  refine (each_any 10 #[.pointer (some ⟨w1.heap.size + 1, 0, none⟩), .pointer (some ⟨w1.heap.size + 1 + 1, 0, none⟩)] (w1.heap.size + 1 + 1 + 1) n cap ao S C (fun k wr => ∃ v1 v2, Gath w0 wr (w1.heap.size + 1) k S C v1 v2) (fun _ => False) w3 (by omega) enter10 hb3
    (fun k wr ⟨v1, v2, g⟩ => hE0.below (by rw [hP]; exact g.bel)) ⟨_, _, hG0⟩ (fun k wr hk ⟨v1, v2, g⟩ => (gath10 w0 _ (w1.heap.size + 1) k S C v1 v2 (g.alloc _) (by omega)).mono fun e w' ⟨he, hg⟩ => Or.inl ⟨he, hg⟩)).mono ?_
  rintro e w5 ⟨rfl, hI⟩
  obtain ⟨v1, v2, g5⟩ : ∃ v1 v2, Gath w0 w5 (w1.heap.size + 1) n S C v1 v2 := hI.resolve_right id
  obtain ⟨b1, d1, rfl, hN⟩ := names_of_own g5.o1
  obtain ⟨b2, d2, rfl, hC⟩ := counts_of_own g5.o2
  have hbel : Below w.heap.size w w5 := (hB1.trans (hB0.mono hB1.size)).trans (g5.bel.mono (by have := hB1.size; omega))
  have hE5 : Ents w5 ao n S C := hE0.below (by rw [hP]; exact g5.bel)
  have x7 : w5.cell? ⟨w1.heap.size + 1, 0, none⟩ = some (.slice b1 n d1) := by rw [cell_of_row _ _ _ _ _ _ g5.b1]; rfl
  have x8 : w5.cell? ⟨w1.heap.size + 1 + 1, 0, none⟩ = some (.slice b2 n d2) := by rw [cell_of_row _ _ _ _ _ _ g5.b2]; rfl
  have x6 : w5.cell? ⟨w1.heap.size, 0, none⟩ = some (.slice ao n cap) := by
    rw [cell_of_row _ _ _ _ _ _ ((g5.bel.block _ (by omega)).trans hV0)]; rfl
  have h1' := h1.below hbel
  have h2' := h2.below hbel
  clear g5 hI hE0 hB0 hV0 hb3 hG0 hE hB1 hP h1 h2 hb1 hb2
  go_wp2_with fail
  go_loopw [9] (fun i wr => ∃ k : Nat, k ≤ n ∧ i = .int .i64 k ∧ ∃ q, wr = w5.drewN q) (fun i _ => n - (intOf i).toNat)
  case atStart => exact ⟨0, Nat.zero_le _, rfl, 0, rfl⟩
  case round =>
    obtain ⟨k, hk, rfl, q, rfl⟩ := hrel
    by_cases hlt : k < n
    · have i1 := h1'.idx c1 k (by omega)
      have i2 := h2'.idx c2 k (by omega)
      have i3 := hN.idx d1 k hlt
      have i4 := hC.idx d2 k hlt
      have i5 := hE5.idx cap k hlt
      have s1 := h1'.cell k (by omega)
      have s2 := h2'.cell k (by omega)
      have s3 := hN.cell k hlt
      have s4 := hC.cell k hlt
      have s5 := hE5.c0 k hlt
      have s6 := hE5.c1 k hlt
      have hca := cellOf_add ao (k * 2) 1
      generalize S k = s at *
      generalize C k = x at *
      clear hN hC hE5 h1' h2'
      go_wp2
      go_quiet (fail)
      go_wp2
      go_quiet (fail)
      go_wp2
      go_roundw
      case rel => exact ⟨k + 1, by omega, by go_num, _, rfl⟩
      case measure => simp [intOf]; omega
    · go_wp2
      go_ret
      exact ⟨rfl, belowN hbel⟩

set_option maxRecDepth 100000 in
theorem exact_big (a1 a2 : Option Addr) (n1 c1 n2 c2 : Nat) (w : World) (hb : 1024 < n1 ∨ 1024 < n2) (hn : n1 ≤ maxLen) (hm : n2 ≤ maxLen) :
    Calls Yba.prog 4 #[.slice a1 n1 c1, .slice a2 n2 c2] w fun e w' => e = .returned (.bool true) ∧ Below w.heap.size w w' := by
  unfold maxLen at hn hm
  by_cases h1 : 1024 < n1
  · have hb1 : decide ((1024 : Int) < (n1 : Int)) = true := by simp; omega
    go_enter Yba.func4, Yba.ntmps4
    go_wp2
    go_ret
    exact ⟨rfl, Below.refl _ _⟩
  · have hb1 : decide ((1024 : Int) < (n1 : Int)) = false := by simp; omega
    have hb2 : decide ((1024 : Int) < (n2 : Int)) = true := by simp; omega
    go_enter Yba.func4, Yba.ntmps4
    go_wp2
    go_ret
    exact ⟨rfl, Below.refl _ _⟩
end Go.Proofs.Ybulkcosq.Clock

/- OUR OWN TEXT. LawS4527CStop (5) and its closure (11): the walks. -/
import Derived.Test.YbulkcosqClock
namespace Go.Proofs.Ybulkcosq.Clock
open Go.RowKit Go.Proofs.Ybulkcosq.Own

/-- WHAT THE CLOSURE FINDS: its six captured variables (calls, n, names, counts, ok, k). -/
structure StopVars (w : World) (P nb b3 b4 kb : Nat) (k n kk : Nat) (a1 a2 : Option Addr) (n1 c1 n2 c2 : Nat) : Prop where
  calls : w.cell? ⟨P, 0, none⟩ = some (.int .i64 k)
  callsf : w.frozen? ⟨P, 0, none⟩ = false
  nn : w.cell? ⟨nb, 0, none⟩ = some (.int .i64 n)
  names : w.cell? ⟨b3, 0, none⟩ = some (.slice a1 n1 c1)
  counts : w.cell? ⟨b4, 0, none⟩ = some (.slice a2 n2 c2)
  kk : w.cell? ⟨kb, 0, none⟩ = some (.int .i64 kk)
  kb : kb ≠ P

set_option maxHeartbeats 1000000 in
theorem stop11 (w : World) (P nb b3 b4 kb o5 k n kk : Nat) (a1 a2 : Option Addr) (n1 c1 n2 c2 : Nat) (S : Nat → ByteArray) (C : Nat → Int) (hv : StopVars w P nb b3 b4 kb k n kk a1 a2 n1 c1 n2 c2)
    (h1 : Names w a1 n1 S) (h2 : Counts w a2 n2 C) (hk : k < n) (hl1 : n ≤ n1) (hl2 : n ≤ n2) (hn : n ≤ 4096) :
    Calls Yba.prog 11 #[.string (S k), .int .u64 (C k), .pointer (some ⟨P, 0, none⟩), .pointer (some ⟨nb, 0, none⟩), .pointer (some ⟨b3, 0, none⟩), .pointer (some ⟨b4, 0, none⟩), .pointer (some ⟨o5, 0, none⟩), .pointer (some ⟨kb, 0, none⟩)] w
      fun e w' => e = .returned (.bool (!(decide (k + 1 = kk)))) ∧ w' = w.setCell ⟨P, 0, none⟩ (.int .i64 ((k + 1 : Nat) : Int)) := by
  have e1 := hv.calls
  have e2 := hv.callsf
  have e3 := hv.nn
  have e4 := hv.names
  have e5 := hv.counts
  have e6 := hv.kk
  have e7 := hv.kb
  have i1 := h1.idx c1 k (by omega)
  have i2 := h2.idx c2 k (by omega)
  have s1 := h1.cell k (by omega)
  have s2 := h2.cell k (by omega)
  have hd : decide ((n : Int) ≤ (k : Int)) = false := by simp; omega
  generalize S k = s at *
  generalize C k = x at *
  clear h1 h2 hv
  by_cases hkk : k + 1 = kk
  · have hb : ((k : Int) + 1 != (kk : Int)) = false := by simp; omega
    go_enter Yba.func11, Yba.ntmps11
    go_wp2
    go_ret
    exact ⟨by simp [hkk], by go_num⟩
  · have hb : ((k : Int) + 1 != (kk : Int)) = true := by simp; omega
    go_enter Yba.func11, Yba.ntmps11
    go_wp2
    go_ret
    exact ⟨by simp [hkk], by go_num⟩

theorem boxes {w wB : World} {o0 o1 o2 o3 : Obj} (h : wB = (((w.alloc o0).alloc o1).alloc o2).alloc o3) :
    Below w.heap.size w wB ∧ wB.heap[w.heap.size]? = some o0 ∧ wB.heap[w.heap.size + 1]? = some o1 ∧ wB.heap[w.heap.size + 1 + 1]? = some o2 ∧ wB.heap[w.heap.size + 1 + 1 + 1]? = some o3 ∧ wB.heap.size = w.heap.size + 4 := by
  subst h
  refine ⟨((((Below.refl _ w).alloc (Nat.le_refl _) _).alloc (by simp) _).alloc (by simp <;> omega) _).alloc (by simp <;> omega) _, ?_, ?_, ?_, ?_, by simp⟩
  · rw [Below.heap_alloc _ _ _ (by simp <;> omega), Below.heap_alloc _ _ _ (by simp <;> omega), Below.heap_alloc _ _ _ (by simp)]; exact cell_of_alloc w _
  · rw [Below.heap_alloc _ _ _ (by simp <;> omega), Below.heap_alloc _ _ _ (by simp)]; simpa using cell_of_alloc (w.alloc o0) o1
  · rw [Below.heap_alloc _ _ _ (by simp)]; simpa using cell_of_alloc ((w.alloc o0).alloc o1) o2
  · simpa using cell_of_alloc (((w.alloc o0).alloc o1).alloc o2) o3

/-- WHERE THE ITERATION STANDS AFTER k CALLS (calls: block P; ok: block P + 1). -/
structure StopHeap (w0 wr : World) (P k : Nat) : Prop where
  bel : Below P w0 wr
  calls : wr.heap[P]? = some (.cells #[.int .i64 k] 3 (0, 0))
  ok : wr.heap[P + 1]? = some (.cells #[.bool true] 4 (0, 0))

theorem StopHeap.alloc {w0 wr : World} {P k : Nat} (h : StopHeap w0 wr P k) (o : Obj) : StopHeap w0 (wr.alloc o) P k := by
  have hl := (Array.getElem?_eq_some_iff.1 h.ok).1
  exact ⟨h.bel.alloc (by omega) _, by rw [Below.heap_alloc _ _ _ (by omega)]; exact h.calls, by rw [Below.heap_alloc _ _ _ hl]; exact h.ok⟩

/-- .. and the stop is not yet reached. -/
def StopAt (w0 : World) (P n kk k : Nat) (wr : World) : Prop := StopHeap w0 wr P k ∧ k ≤ n ∧ ¬ (1 ≤ kk ∧ kk ≤ k)
/-- .. and the stop is reached. -/
def StopEnd (w0 : World) (P n kk : Nat) (wr : World) : Prop := StopHeap w0 wr P kk ∧ 1 ≤ kk ∧ kk ≤ n

theorem StopAt.bel {w0 : World} {P n kk k : Nat} {wr : World} (h : StopAt w0 P n kk k wr) : Below P w0 wr := h.1.bel
theorem StopAt.calls {w0 : World} {P n kk k : Nat} {wr : World} (h : StopAt w0 P n kk k wr) : wr.heap[P]? = some (.cells #[.int .i64 k] 3 (0, 0)) := h.1.calls
theorem StopAt.alloc {w0 : World} {P n kk k : Nat} {wr : World} (h : StopAt w0 P n kk k wr) (o : Obj) : StopAt w0 P n kk k (wr.alloc o) := ⟨h.1.alloc o, h.2⟩

theorem stop_start (w0 : World) (n kk : Nat) (o : Obj) : StopAt w0 w0.heap.size n kk 0 (((w0.alloc (.cells #[.int .i64 0] 3)).alloc (.cells #[.bool true] 4)).alloc o) := by
  refine ⟨StopHeap.alloc ⟨((Below.refl _ w0).alloc (Nat.le_refl _) _).alloc (by simp) _, ?_, ?_⟩ o, Nat.zero_le _, by omega⟩
  · rw [Below.heap_alloc _ _ _ (by simp)]; exact cell_of_alloc w0 _
  · simpa using cell_of_alloc (w0.alloc (.cells #[.int .i64 0] 3)) (.cells #[.bool true] 4)

theorem StopAt.step {w0 : World} {P n kk k : Nat} {wr : World} (h : StopAt w0 P n kk k wr) (hk : k < n) :
    (Ending.returned (.bool (!(decide (k + 1 = kk)))) = .returned (.bool true) ∧ StopAt w0 P n kk (k + 1) (wr.setCell ⟨P, 0, none⟩ (.int .i64 ((k + 1 : Nat) : Int)))) ∨
    (Ending.returned (.bool (!(decide (k + 1 = kk)))) = .returned (.bool false) ∧ StopEnd w0 P n kk (wr.setCell ⟨P, 0, none⟩ (.int .i64 ((k + 1 : Nat) : Int)))) := by
  obtain ⟨⟨hb, hc, ho⟩, hkn, hno⟩ := h
  have H : StopHeap w0 (wr.setCell ⟨P, 0, none⟩ (.int .i64 ((k + 1 : Nat) : Int))) P (k + 1) :=
    ⟨hb.setCell (Nat.le_refl _) _, by simp [World.setCell, Array.getElem?_modify, hc], by rw [Below.heap_setCell _ _ _ _ (by simp)]; exact ho⟩
  by_cases e : k + 1 = kk
  · right
    subst e
    exact ⟨by simp, H, by omega, by omega⟩
  · left
    exact ⟨by simp [e], H, by omega, by omega⟩

theorem stop_end {w0 w5 : World} {P n kk : Nat} (h : StopAt w0 P n kk n w5 ∨ StopEnd w0 P n kk w5) : ∃ want, ((1 ≤ kk ∧ kk ≤ n ∧ want = kk) ∨ (¬ (1 ≤ kk ∧ kk ≤ n) ∧ want = n)) ∧ StopHeap w0 w5 P want := by
  rcases h with ⟨h, _, hno⟩ | ⟨h, h1, h2⟩
  · exact ⟨n, Or.inr ⟨hno, rfl⟩, h⟩
  · exact ⟨kk, Or.inl ⟨h1, h2, rfl⟩, h⟩

set_option maxRecDepth 100000 in
set_option maxHeartbeats 2000000 in
theorem stop_main (a1 a2 : Option Addr) (n1 c1 n2 c2 : Nat) (stop : Int) (S : Nat → ByteArray) (C : Nat → Int) (w : World) (h1 : Names w a1 n1 S) (h2 : Counts w a2 n2 C) (hn1 : n1 ≤ 1024) (hn2 : n2 ≤ 1024) (hst : 0 ≤ stop ∧ stop ≤ 255) :
    Calls Yba.prog 5 #[.slice a1 n1 c1, .slice a2 n2 c2, .int .u8 stop] w fun e w' => e = .returned (.bool true) ∧ Below w.heap.size w w' := by
  obtain ⟨n, hn⟩ : ∃ n, Least n n1 n2 := ⟨_, least_min n1 n2⟩
  have hm1 := hn.lit
  have hm2 := hn.nat
  have hl1 := hn.le1
  have hl2 := hn.le2
  have hs0 := hst.1
  have hs1 := hst.2
  clear hst
  have hb1 : decide ((1024 : Int) < (n1 : Int)) = false := by simp; omega
  have hb2 : decide ((1024 : Int) < (n2 : Int)) = false := by simp; omega
  obtain ⟨kk, hkk⟩ : ∃ kk : Nat, stop % ((n : Int) + 2) = kk := ⟨_, (Int.toNat_of_nonneg (Int.emod_nonneg _ (by omega))).symm⟩
  have hkn : kk ≤ n + 1 := by have := Int.emod_lt_of_pos stop (show (0 : Int) < (n : Int) + 2 by omega); omega
  obtain ⟨wB, hwB⟩ : ∃ wB, wB = (((w.alloc (.cells #[.slice a1 n1 c1] 33)).alloc (.cells #[.slice a2 n2 c2] 34)).alloc (.cells #[.int .i64 n] 3)).alloc (.cells #[.int .i64 kk] 3) := ⟨_, rfl⟩
  obtain ⟨hBB, hB0, hB1, hB2, hB3, hBs⟩ := boxes hwB
  have h1B := h1.below hBB
  have h2B := h2.below hBB
  go_enter Yba.func5, Yba.ntmps5
  go_wp2_with fail
  rw [← hwB]
  clear hwB
  refine (build_any a1 a2 n n1 c1 n2 c2 S C wB hn h1B h2B hn1 hn2).mono ?_
  rintro e w1 ⟨ao, cap, rfl, hE, hb1'⟩
  have hs1' := hb1'.size
  have c0 := (hb1'.block _ (by omega)).trans hB0
  have c1' := (hb1'.block _ (by omega)).trans hB1
  have c2' := (hb1'.block _ (by omega)).trans hB2
  have c3 := (hb1'.block _ (by omega)).trans hB3
  have hbw1 : Below w.heap.size w w1 := hBB.trans (hb1'.mono (by omega))
  clear hm1 hm2 hB0 hB1 hB2 hB3 h1B h2B hb1' hBB hb1 hb2
  go_wp2_with fail
  refine (all_any _ _ ⟨_, _, _, rfl⟩).mono ?_
  rintro e w2 ⟨rfl, rfl⟩
  have hP : (w1.alloc (.cells #[.slice ao n cap] 37)).heap.size = w1.heap.size + 1 := by simp
  have hB0 : Below w1.heap.size w1 (w1.alloc (.cells #[.slice ao n cap] 37)) := (Below.refl _ _).alloc (Nat.le_refl _) _
  have hI0 := stop_start (w1.alloc (.cells #[.slice ao n cap] 37)) n kk (.cells #[.slice ao n cap] 37)
  have hb3 : ((((w1.alloc (.cells #[.slice ao n cap] 37)).alloc (.cells #[.int .i64 0] 3)).alloc (.cells #[.bool true] 4)).alloc (.cells #[.slice ao n cap] 37)).cell? ⟨w1.heap.size + 1 + 1 + 1, 0, none⟩ = some (.slice ao n cap) := by
    have := cell_of_alloc (((w1.alloc (.cells #[.slice ao n cap] 37)).alloc (.cells #[.int .i64 0] 3)).alloc (.cells #[.bool true] 4)) (.cells #[.slice ao n cap] 37)
    simp only [World.size_alloc] at this
    rw [cell_of_row _ _ _ _ _ _ this]; rfl
  rw [hP] at hI0
  go_wp2_with fail
  generalize hw0 : w1.alloc (.cells #[.slice ao n cap] 37) = w0 at *
  have hE0 : Ents w0 ao n S C := hE.below hB0
  have d0 := (hB0.block _ (by omega)).trans c0
  have d1 := (hB0.block _ (by omega)).trans c1'
  have d2 := (hB0.block _ (by omega)).trans c2'
  have d3 := (hB0.block _ (by omega)).trans c3
  have hbw0 : Below w.heap.size w w0 := hbw1.trans (hB0.mono hbw1.size)
  generalize (((w0.alloc (.cells #[.int .i64 0] 3)).alloc (.cells #[.bool true] 4)).alloc (.cells #[.slice ao n cap] 37)) = w3 at *
  clear hw0 c0 c1' c2' c3 hE hbw1 hB0
  have hsw0 := hbw0.size
  refine (each_any 11 #[.pointer (some ⟨w1.heap.size + 1, 0, none⟩), .pointer (some ⟨w.heap.size + 1 + 1, 0, none⟩), .pointer (some ⟨w.heap.size, 0, none⟩), .pointer (some ⟨w.heap.size + 1, 0, none⟩), .pointer (some ⟨w1.heap.size + 1 + 1, 0, none⟩), .pointer (some ⟨w.heap.size + 1 + 1 + 1, 0, none⟩)] (w1.heap.size + 1 + 1 + 1) n cap ao S C
    (StopAt w0 (w1.heap.size + 1) n kk) (StopEnd w0 (w1.heap.size + 1) n kk) w3 (by omega) enter11 hb3
    (fun k wr g => hE0.below (by rw [hP]; exact g.bel)) hI0 (fun k wr hk g => ?_)).mono ?_
  · have g' := g.alloc (.cells #[.string (S k), .int .u64 (C k)] 45)
    have hbwr : Below w.heap.size w (wr.alloc (.cells #[.string (S k), .int .u64 (C k)] 45)) := hbw0.trans (g'.bel.mono (by omega))
    refine (stop11 (wr.alloc (.cells #[.string (S k), .int .u64 (C k)] 45)) (w1.heap.size + 1) (w.heap.size + 1 + 1) w.heap.size (w.heap.size + 1) (w.heap.size + 1 + 1 + 1) (w1.heap.size + 1 + 1) k n kk a1 a2 n1 c1 n2 c2 S C ?_ (h1.below hbwr) (h2.below hbwr) hk hl1 hl2 (by omega)).mono ?_
    · refine ⟨?_, ?_, ?_, ?_, ?_, ?_, by omega⟩
      · rw [cell_of_row _ _ _ _ _ _ g'.calls]; rfl
      · simp [World.frozen?, g'.calls]
      · rw [cell_of_row _ _ _ _ _ _ ((g'.bel.block _ (by omega)).trans d2)]; rfl
      · rw [cell_of_row _ _ _ _ _ _ ((g'.bel.block _ (by omega)).trans d0)]; rfl
      · rw [cell_of_row _ _ _ _ _ _ ((g'.bel.block _ (by omega)).trans d1)]; rfl
      · rw [cell_of_row _ _ _ _ _ _ ((g'.bel.block _ (by omega)).trans d3)]; rfl
    · rintro e w' ⟨rfl, rfl⟩
      exact g'.step hk
  · rintro e w5 ⟨rfl, hI⟩
    obtain ⟨want, hwant, T⟩ := stop_end hI
    have x0 : w5.cell? ⟨w.heap.size + 1 + 1, 0, none⟩ = some (.int .i64 n) := by rw [cell_of_row _ _ _ _ _ _ ((T.bel.block _ (by omega)).trans d2)]; rfl
    have x1 : w5.cell? ⟨w.heap.size + 1 + 1 + 1, 0, none⟩ = some (.int .i64 kk) := by rw [cell_of_row _ _ _ _ _ _ ((T.bel.block _ (by omega)).trans d3)]; rfl
    have x2 : w5.cell? ⟨w1.heap.size + 1, 0, none⟩ = some (.int .i64 want) := by rw [cell_of_row _ _ _ _ _ _ T.calls]; rfl
    have x3 : w5.cell? ⟨w1.heap.size + 1 + 1, 0, none⟩ = some (.bool true) := by rw [cell_of_row _ _ _ _ _ _ T.ok]; rfl
    have hbel : Below w.heap.size w w5 := hbw0.trans (T.bel.mono (by omega))
    clear T hI d0 d1 d2 d3 hE0 hbw0 hb3 hI0 hP h1 h2
    rcases hwant with ⟨h1k, hkn', rfl⟩ | ⟨hno, rfl⟩
    · have e1 : decide ((1 : Int) ≤ (want : Int)) = true := by simp; omega
      have e2 : decide ((want : Int) ≤ (n : Int)) = true := by simp; omega
      go_wp2
      go_ret
      exact ⟨rfl, hbel⟩
    · by_cases h1k : 1 ≤ kk
      · have e1 : decide ((1 : Int) ≤ (kk : Int)) = true := by simp; omega
        have e2 : decide ((kk : Int) ≤ (want : Int)) = false := by simp; omega
        go_wp2
        go_ret
        exact ⟨rfl, hbel⟩
      · have e1 : decide ((1 : Int) ≤ (kk : Int)) = false := by simp; omega
        go_wp2
        go_ret
        exact ⟨rfl, hbel⟩

set_option maxRecDepth 100000 in
theorem stop_big (a1 a2 : Option Addr) (n1 c1 n2 c2 : Nat) (stop : Int) (w : World) (hb : 1024 < n1 ∨ 1024 < n2) (hn : n1 ≤ maxLen) (hm : n2 ≤ maxLen) :
    Calls Yba.prog 5 #[.slice a1 n1 c1, .slice a2 n2 c2, .int .u8 stop] w fun e w' => e = .returned (.bool true) ∧ Below w.heap.size w w' := by
  unfold maxLen at hn hm
  by_cases h1 : 1024 < n1
  · have hb1 : decide ((1024 : Int) < (n1 : Int)) = true := by simp; omega
    go_enter Yba.func5, Yba.ntmps5
    go_wp2
    go_ret
    exact ⟨rfl, ((Below.refl _ w).alloc (Nat.le_refl _) _).alloc (by simp) _⟩
  · have hb1 : decide ((1024 : Int) < (n1 : Int)) = false := by simp; omega
    have hb2 : decide ((1024 : Int) < (n2 : Int)) = true := by simp; omega
    go_enter Yba.func5, Yba.ntmps5
    go_wp2
    go_ret
    exact ⟨rfl, ((Below.refl _ w).alloc (Nat.le_refl _) _).alloc (by simp) _⟩
end Go.Proofs.Ybulkcosq.Clock

/- OUR OWN TEXT. The time package's functions on this road (5, 8, 9, 11, 12, 14, 15): contracts at times without a monotonic reading. -/
import Derived.Test.YbulkcoyaRows
import Derived.WalkKit
import Derived.WalkSpells
import Derived.WalkLawsBesides
import Derived.Deep.QuietTactic
import Derived.BigQuiet
import Derived.Below
import Derived.Laws.BitsLemmas
import Derived.Laws.Bits64
import Derived.Laws.Bits64b
namespace Go.Proofs.Ybulkcoya.Due
open Go.RowKit

theorem wraps63 (n : Int) (h₀ : 0 ≤ n) (h₁ : n < 2 ^ 63) : IntKind.u64.wrap n = n := by rw [IntKind.wrap_u64]; omega
theorem b_nsec (r : Nat) (h : r < 1073741824) : bits .and .u64 (r : Int) 1073741823 = (r : Int) := by
  have h' := bits_mask .u64 63 (by decide) wraps63 30 (by decide) (r : Int) (by omega) (by omega)
  have e : ((2 : Int) ^ 30 - 1) = 1073741823 := by decide
  have e2 : ((2 : Int) ^ 30) = 1073741824 := by decide
  rw [e, e2] at h'
  rw [h']; omega
theorem b_mono (r : Nat) (h : r < 1073741824) : bits .and .u64 (r : Int) 9223372036854775808 = 0 := by
  have h' := bits_and_u64_nat r 9223372036854775808 (by omega) (by omega)
  have : r &&& 9223372036854775808 = 0 := by
    rw [show (9223372036854775808 : Nat) = 2 ^ 63 by decide]
    apply Nat.eq_of_testBit_eq
    intro i
    rw [Nat.testBit_and, Nat.testBit_two_pow, Nat.zero_testBit]
    by_cases hi : 63 = i
    · subst hi; rw [Nat.testBit_lt_two_pow (by omega)]; rfl
    · simp [hi]
  rw [this] at h'
  simpa using h'
theorem b_clear (r : Nat) (h : r < 1073741824) : bits .andNot .u64 (r : Int) 1073741823 = 0 := by
  have h1 : (BitVec.ofInt 64 (r : Int)).toNat = r := by
    rw [BitVec.ofInt_natCast, BitVec.toNat_ofNat]; exact Nat.mod_eq_of_lt (by omega)
  have hA : BitVec.ofInt 64 (r : Int) &&& BitVec.ofInt 64 1073741823 = BitVec.ofInt 64 (r : Int) := by
    apply BitVec.eq_of_toNat_eq
    rw [BitVec.toNat_and, h1, show (BitVec.ofInt 64 1073741823).toNat = 2 ^ 30 - 1 by decide, Nat.and_two_pow_sub_one_eq_mod]
    omega
  have hB : BitVec.ofInt 64 (r : Int) &&& ~~~ BitVec.ofInt 64 1073741823 = 0#64 := by
    rw [← hA]
    generalize BitVec.ofInt 64 (r : Int) = A
    generalize BitVec.ofInt 64 1073741823 = M
    ext i
    simp
  show IntKind.u64.wrap ((BitVec.ofInt 64 (r : Int) &&& ~~~ BitVec.ofInt 64 1073741823).toNat : Int) = _
  rw [hB]; rfl
theorem b_or (r : Nat) (h : r < 1073741824) : bits .or .u64 0 (r : Int) = (r : Int) := by
  have h' := bits_or_u64_nat 0 r (by omega) (by omega)
  simpa using h'
theorem b_zero : bits .and .u64 0 9223372036854775808 = 0 := by decide

/-- The time n nanoseconds behind the zero time. -/
def secs (n : Nat) : Nat := n / 1000000000
def nano (n : Nat) : Nat := n % 1000000000
theorem nano_lt (n : Nat) : nano n < 1000000000 := Nat.mod_lt _ (by decide)
theorem split (n : Nat) : n = secs n * 1000000000 + nano n := by unfold secs nano; omega
def tcells (n : Nat) : Array Value := #[.int .u64 (nano n : Int), .int .i64 (secs n : Int), .pointer none]
def tm (n : Nat) : Value := .agg (tcells n)

theorem nsec11 (b o r : Nat) (w : World) (hx : r < 1000000000) (h : w.cell? ⟨b, o, none⟩ = some (.int .u64 r)) :
    Calls Yba.prog 11 #[.pointer (some ⟨b, o, none⟩)] w fun e w' => e = .returned (.int .i32 r) ∧ w' = w := by
  have h1 := b_nsec r (by omega)
  go_enter Yba.func11, Yba.ntmps11
  go_wp2
  go_ret
  exact ⟨by go_num, rfl⟩

theorem sec15 (b o r q : Nat) (w : World) (hx : r < 1000000000) (h : w.cell? ⟨b, o, none⟩ = some (.int .u64 r)) (h2 : w.cell? ⟨b, o + 1, none⟩ = some (.int .i64 q)) :
    Calls Yba.prog 15 #[.pointer (some ⟨b, o, none⟩)] w fun e w' => e = .returned (.int .i64 q) ∧ w' = w := by
  have h1 := b_mono r (by omega)
  go_enter Yba.func15, Yba.ntmps15
  go_wp2
  go_ret
  exact ⟨rfl, rfl⟩

theorem addSec12 (b r q d : Nat) (w : World) (hx : r < 1000000000) (hq : q ≤ 1000000000) (hd : d ≤ 1000000000) (h : w.cell? ⟨b, 0, none⟩ = some (.int .u64 r)) (h2 : w.cell? ⟨b, 1, none⟩ = some (.int .i64 q)) (hf : w.frozen? ⟨b, 1, none⟩ = false) :
    Calls Yba.prog 12 #[.pointer (some ⟨b, 0, none⟩), .int .i64 d] w fun e w' => e = .returned (.tuple #[]) ∧ w' = w.setCell ⟨b, 1, none⟩ (.int .i64 ((q : Int) + (d : Int))) := by
  have h1 := b_mono r (by omega)
  by_cases hd0 : d = 0
  · subst hd0
    go_enter Yba.func12, Yba.ntmps12
    go_wp2
    go_end0
    exact ⟨rfl, by simp⟩
  · have e1 : decide ((0 : Int) < (d : Int)) = true := by simp; omega
    have e2 : decide ((q : Int) < (q : Int) + (d : Int)) = true := by simp; omega
    go_enter Yba.func12, Yba.ntmps12
    go_wp2
    go_end0
    exact ⟨rfl, rfl⟩

theorem cell2 (w : World) (A B : Array Value) (t1 t2 : TypeId) (i : Nat) (v : Value) (h : A[i]? = some v) : ((w.alloc (.cells A t1)).alloc (.cells B t2)).cell? ⟨w.heap.size, i, none⟩ = some v := by
  rw [World.cell?_alloc_lt _ _ _ (by simp), cell_of_row _ _ _ _ _ _ (MapKept.heap_alloc w _).1]; exact h
theorem frozen2 (w : World) (A B : Array Value) (t1 t2 : TypeId) (i : Nat) : ((w.alloc (.cells A t1)).alloc (.cells B t2)).frozen? ⟨w.heap.size, i, none⟩ = false := by
  have : ((w.alloc (.cells A t1)).alloc (.cells B t2)).heap[w.heap.size]? = some (.cells A t1) := by
    rw [Below.heap_alloc _ _ _ (by simp)]; exact (MapKept.heap_alloc w _).1
  simp [World.frozen?, this]

/-- A time's value: the seconds, the nanoseconds; no monotonic reading, no place. -/
abbrev tval (r q : Nat) : Value := .agg #[.int .u64 (r : Int), .int .i64 (q : Int), .pointer none]
abbrev tobj (r q : Nat) : Obj := .cells #[.int .u64 (r : Int), .int .i64 (q : Int), .pointer none] 32

set_option maxHeartbeats 1000000 in
theorem add_no (r q dr dq d : Nat) (w : World) (hr : r < 1000000000) (hq : q ≤ 100000000) (hdr : dr < 1000000000) (hdq : dq ≤ 100000000) (hd : d = dq * 1000000000 + dr) (hc : r + dr < 1000000000) :
    Calls Yba.prog 5 #[tval r q, .int .i64 d] w fun e w' => e = .returned (tval (r + dr) (q + dq)) ∧ w' = (w.alloc (tobj (r + dr) (q + dq))).alloc (tobj (r + dr) (q + dq)) := by
  have b1 := b_nsec r (by omega)
  have b2 := b_mono r (by omega)
  have b3 := b_clear r (by omega)
  have b4 := b_or (r + dr) (by omega)
  have b5 := b_mono (r + dr) (by omega)
  simp only [Int.natCast_add] at b4 b5
  have e1 : (d : Int) / 1000000000 = (dq : Int) := by omega
  have e2 : (d : Int) % 1000000000 = (dr : Int) := by omega
  have e3 : decide ((1000000000 : Int) ≤ (r : Int) + (dr : Int)) = false := by simp; omega
  have e4 : decide ((r : Int) + (dr : Int) < 0) = false := by simp; omega
  have hdb : d < 1000000000000000000 := by omega
  clear hd
  go_enter Yba.func5, Yba.ntmps5
  go_wp2_with fail
  refine Calls.mono (nsec11 _ _ r _ hr (cell2 _ _ _ _ _ _ _ rfl)) ?_
  rintro e w' ⟨rfl, rfl⟩
  go_wp2_with fail
  refine Calls.mono (addSec12 _ (r + dr) q dq _ hc (by omega) (by omega) (cell2 _ _ _ _ _ _ _ rfl) (cell2 _ _ _ _ _ _ _ rfl) (frozen2 _ _ _ _ _ _)) ?_
  rintro e w' ⟨rfl, rfl⟩
  go_wp2
  refine bodyPost_ret (v := tval (r + dr) (q + dq)) (by simp [results, Yba.results5, go_sem]) rfl ⟨rfl, ?_⟩
  simp only [tobj, Int.natCast_add]

set_option maxHeartbeats 1000000 in
theorem add_yes (r q dr dq d s : Nat) (w : World) (hr : r < 1000000000) (hq : q ≤ 100000000) (hdr : dr < 1000000000) (hdq : dq ≤ 100000000) (hd : d = dq * 1000000000 + dr) (hc : r + dr = 1000000000 + s) :
    Calls Yba.prog 5 #[tval r q, .int .i64 d] w fun e w' => e = .returned (tval s (q + dq + 1)) ∧ w' = (w.alloc (tobj s (q + dq + 1))).alloc (tobj s (q + dq + 1)) := by
  have b1 := b_nsec r (by omega)
  have b2 := b_mono r (by omega)
  have b3 := b_clear r (by omega)
  have b4 := b_or s (by omega)
  have b5 := b_mono s (by omega)
  have e1 : (d : Int) / 1000000000 = (dq : Int) := by omega
  have e2 : (d : Int) % 1000000000 = (dr : Int) := by omega
  have e3 : decide ((1000000000 : Int) ≤ (r : Int) + (dr : Int)) = true := by simp; omega
  have e5 : (r : Int) + (dr : Int) - 1000000000 = (s : Int) := by omega
  have e4 : decide ((s : Int) < 0) = false := by simp
  have hdb : d < 1000000000000000000 := by omega
  clear hd
  go_enter Yba.func5, Yba.ntmps5
  go_wp2_with fail
  refine Calls.mono (nsec11 _ _ r _ hr (cell2 _ _ _ _ _ _ _ rfl)) ?_
  rintro e w' ⟨rfl, rfl⟩
  go_wp2_with fail
  refine Calls.mono (addSec12 _ s q (dq + 1) _ (by omega) (by omega) (by omega) (cell2 _ _ _ _ _ _ _ rfl) (cell2 _ _ _ _ _ _ _ rfl) (frozen2 _ _ _ _ _ _)) ?_
  rintro e w' ⟨rfl, rfl⟩
  go_wp2
  refine bodyPost_ret (v := tval s (q + dq + 1)) (by simp [results, Yba.results5, go_sem, Int.add_assoc]) rfl ⟨rfl, ?_⟩
  simp only [tobj, Int.natCast_add, Int.add_assoc]
  rfl

/-- 'time.Time{} + x nanoseconds', then d more. -/
theorem add5 (x d : Nat) (w : World) (hx : x ≤ 100000000000) (hd : d ≤ 100000000000) :
    Calls Yba.prog 5 #[tval (nano x) (secs x), .int .i64 d] w fun e w' => e = .returned (tval (nano (x + d)) (secs (x + d))) ∧ w' = (w.alloc (tobj (nano (x + d)) (secs (x + d)))).alloc (tobj (nano (x + d)) (secs (x + d))) := by
  have h1 := nano_lt x
  have h2 := nano_lt d
  have h3 := split x
  have h4 := split d
  by_cases hc : nano x + nano d < 1000000000
  · have e1 : nano (x + d) = nano x + nano d := by unfold nano at *; omega
    have e2 : secs (x + d) = secs x + secs d := by unfold secs nano at *; omega
    rw [e1, e2]
    exact add_no _ _ _ _ d w h1 (by omega) h2 (by omega) h4 hc
  · have e1 : nano x + nano d = 1000000000 + nano (x + d) := by unfold nano at *; omega
    have e2 : secs (x + d) = secs x + secs d + 1 := by unfold secs nano at *; omega
    rw [e2]
    exact add_yes _ _ _ _ d _ w h1 (by omega) h2 (by omega) h4 e1

theorem zero8 (r q : Nat) (w : World) : Calls Yba.prog 8 #[tval r q] w fun e w' => e = .returned (.bool (decide (r = 0 ∧ q = 0))) ∧ w' = w.alloc (tobj r q) := by
  by_cases h0 : r = 0
  · have e1 : ((r : Int) == 0) = true := by simp [h0]
    go_enter Yba.func8, Yba.ntmps8
    go_wp2
    go_ret
    exact ⟨congrArg (fun b => Ending.returned (.bool b)) (by rw [Bool.eq_iff_iff]; simp [h0]), by rw [h0]; rfl⟩
  · have e1 : ((r : Int) == 0) = false := by simp [h0]
    go_enter Yba.func8, Yba.ntmps8
    go_wp2
    go_ret
    exact ⟨by simp [h0], rfl⟩

theorem b_both (r1 r2 : Nat) (h1 : r1 < 1000000000) (h2 : r2 < 1000000000) : ∃ k : Nat, bits .and .u64 (r1 : Int) (r2 : Int) = (k : Int) ∧ bits .and .u64 (k : Int) 9223372036854775808 = 0 :=
  ⟨r1 &&& r2, bits_and_u64_nat r1 r2 (by omega) (by omega), b_mono _ (Nat.lt_of_le_of_lt Nat.and_le_left (by omega))⟩
theorem cell1 (w : World) (A B : Array Value) (t1 t2 : TypeId) (i : Nat) (v : Value) (h : B[i]? = some v) : ((w.alloc (.cells A t1)).alloc (.cells B t2)).cell? ⟨w.heap.size + 1, i, none⟩ = some v := by
  have := (MapKept.heap_alloc (w.alloc (.cells A t1)) (.cells B t2)).1
  simp only [World.size_alloc] at this
  rw [cell_of_row _ _ _ _ _ _ this]; exact h

set_option maxHeartbeats 1000000 in
theorem before14 (r1 q1 r2 q2 : Nat) (w : World) (h1 : r1 < 1000000000) (h2 : r2 < 1000000000) :
    Calls Yba.prog 14 #[tval r1 q1, tval r2 q2] w fun e w' => e = .returned (.bool (decide (q1 < q2 ∨ (q1 = q2 ∧ r1 < r2)))) ∧ w' = (w.alloc (tobj r1 q1)).alloc (tobj r2 q2) := by
  obtain ⟨k, hk, hb⟩ := b_both r1 r2 h1 h2
  have hS1 := sec15 w.heap.size 0 r1 q1 ((w.alloc (tobj r1 q1)).alloc (tobj r2 q2)) h1 (cell2 _ _ _ _ _ _ _ rfl) (cell2 _ _ _ _ _ _ _ rfl)
  have hS2 := sec15 (w.heap.size + 1) 0 r2 q2 ((w.alloc (tobj r1 q1)).alloc (tobj r2 q2)) h2 (cell1 _ _ _ _ _ _ _ rfl) (cell1 _ _ _ _ _ _ _ rfl)
  have hN1 := nsec11 w.heap.size 0 r1 ((w.alloc (tobj r1 q1)).alloc (tobj r2 q2)) h1 (cell2 _ _ _ _ _ _ _ rfl)
  have hN2 := nsec11 (w.heap.size + 1) 0 r2 ((w.alloc (tobj r1 q1)).alloc (tobj r2 q2)) h2 (cell1 _ _ _ _ _ _ _ rfl)
  have HS1 : Hid _ := hS1
  have HS2 : Hid _ := hS2
  have HN1 : Hid _ := hN1
  have HN2 : Hid _ := hN2
  clear hS1 hS2 hN1 hN2
  by_cases hlt : q1 < q2
  · have e1 : decide ((q1 : Int) < (q2 : Int)) = true := by simp [hlt]
    have e2 : decide (q1 < q2) = true := by simp [hlt]
    go_enter Yba.func14, Yba.ntmps14
    go_wp2_with fail
    refine Calls.mono HS1.out ?_
    rintro e w' ⟨rfl, rfl⟩
    go_wp2_with fail
    refine Calls.mono HS2.out ?_
    rintro e w' ⟨rfl, rfl⟩
    go_wp2
    go_ret
    exact ⟨by simp [hlt], rfl⟩
  · have e1 : decide ((q1 : Int) < (q2 : Int)) = false := by simp; omega
    have e2 : decide (q1 < q2) = false := by simp; omega
    by_cases heq : q1 = q2
    · subst heq
      go_enter Yba.func14, Yba.ntmps14
      go_wp2_with fail
      refine Calls.mono HS1.out ?_
      rintro e w' ⟨rfl, rfl⟩
      go_wp2_with fail
      refine Calls.mono HS2.out ?_
      rintro e w' ⟨rfl, rfl⟩
      go_wp2_with fail
      refine Calls.mono HN1.out ?_
      rintro e w' ⟨rfl, rfl⟩
      go_wp2_with fail
      refine Calls.mono HN2.out ?_
      rintro e w' ⟨rfl, rfl⟩
      go_wp2
      go_ret
      exact ⟨congrArg (fun b => Ending.returned (.bool b)) (by rw [Bool.eq_iff_iff]; simp <;> omega), rfl⟩
    · have e3 : ((q1 : Int) == (q2 : Int)) = false := by simp; omega
      have e4 : (q1 == q2) = false := by simp [heq]
      have e5 : decide (q1 = q2) = false := by simp [heq]
      go_enter Yba.func14, Yba.ntmps14
      go_wp2_with fail
      refine Calls.mono HS1.out ?_
      rintro e w' ⟨rfl, rfl⟩
      go_wp2_with fail
      refine Calls.mono HS2.out ?_
      rintro e w' ⟨rfl, rfl⟩
      go_wp2
      go_ret
      exact ⟨by simp [hlt, heq], rfl⟩

set_option maxHeartbeats 1000000 in
theorem equal9 (r1 q1 r2 q2 : Nat) (w : World) (h1 : r1 < 1000000000) (h2 : r2 < 1000000000) :
    Calls Yba.prog 9 #[tval r1 q1, tval r2 q2] w fun e w' => e = .returned (.bool (decide (q1 = q2 ∧ r1 = r2))) ∧ w' = (w.alloc (tobj r1 q1)).alloc (tobj r2 q2) := by
  obtain ⟨k, hk, hb⟩ := b_both r1 r2 h1 h2
  have hS1 := sec15 w.heap.size 0 r1 q1 ((w.alloc (tobj r1 q1)).alloc (tobj r2 q2)) h1 (cell2 _ _ _ _ _ _ _ rfl) (cell2 _ _ _ _ _ _ _ rfl)
  have hS2 := sec15 (w.heap.size + 1) 0 r2 q2 ((w.alloc (tobj r1 q1)).alloc (tobj r2 q2)) h2 (cell1 _ _ _ _ _ _ _ rfl) (cell1 _ _ _ _ _ _ _ rfl)
  have hN1 := nsec11 w.heap.size 0 r1 ((w.alloc (tobj r1 q1)).alloc (tobj r2 q2)) h1 (cell2 _ _ _ _ _ _ _ rfl)
  have hN2 := nsec11 (w.heap.size + 1) 0 r2 ((w.alloc (tobj r1 q1)).alloc (tobj r2 q2)) h2 (cell1 _ _ _ _ _ _ _ rfl)
  have HS1 : Hid _ := hS1
  have HS2 : Hid _ := hS2
  have HN1 : Hid _ := hN1
  have HN2 : Hid _ := hN2
  clear hS1 hS2 hN1 hN2
  by_cases heq : q1 = q2
  · subst heq
    go_enter Yba.func9, Yba.ntmps9
    go_wp2_with fail
    refine Calls.mono HS1.out ?_
    rintro e w' ⟨rfl, rfl⟩
    go_wp2_with fail
    refine Calls.mono HS2.out ?_
    rintro e w' ⟨rfl, rfl⟩
    go_wp2_with fail
    refine Calls.mono HN1.out ?_
    rintro e w' ⟨rfl, rfl⟩
    go_wp2_with fail
    refine Calls.mono HN2.out ?_
    rintro e w' ⟨rfl, rfl⟩
    go_wp2
    go_ret
    exact ⟨congrArg (fun b => Ending.returned (.bool b)) (by rw [Bool.eq_iff_iff]; simp <;> omega), rfl⟩
  · have e3 : ((q1 : Int) == (q2 : Int)) = false := by simp; omega
    have e4 : (q1 == q2) = false := by simp [heq]
    have e5 : decide (q1 = q2) = false := by simp [heq]
    go_enter Yba.func9, Yba.ntmps9
    go_wp2_with fail
    refine Calls.mono HS1.out ?_
    rintro e w' ⟨rfl, rfl⟩
    go_wp2_with fail
    refine Calls.mono HS2.out ?_
    rintro e w' ⟨rfl, rfl⟩
    go_wp2
    go_ret
    exact ⟨by simp [heq], rfl⟩
end Go.Proofs.Ybulkcoya.Due

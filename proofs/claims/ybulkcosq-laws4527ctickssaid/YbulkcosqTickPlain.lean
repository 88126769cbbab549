/- OUR OWN TEXT. The plain side of LawS4527CTicks: the entries that a tally of eight letters makes. No Go in sight but the values of the cells. -/
import Derived.Test.YbulkcosqBase
namespace Go.Proofs.Ybulkcosq.Tick
open Go.RowKit

/-- The letter c's name. -/
def nm (c : Nat) : ByteArray := ⟨#[UInt8.ofNat (97 + c)]⟩

/-- The entries of the letters from a on, n of them. -/
def seg (T : Nat → Nat) (a n : Nat) : List (Nat × Nat) := (List.range' a n).filterMap fun c => if T c = 0 then none else some (c, T c)

theorem seg_add (T : Nat → Nat) (a m n : Nat) : seg T a (m + n) = seg T a m ++ seg T (a + m) n := by
  unfold seg
  rw [← List.filterMap_append, List.range'_append_1]

theorem seg_zero (T : Nat → Nat) (a : Nat) : seg T a 0 = [] := rfl
theorem seg_one_none {T : Nat → Nat} {a : Nat} (h : T a = 0) : seg T a 1 = [] := by simp [seg, List.range', h]
theorem seg_one_some {T : Nat → Nat} {a : Nat} (h : T a ≠ 0) : seg T a 1 = [(a, T a)] := by simp [seg, List.range', h]

theorem fm_congr {f g : Nat → Option (Nat × Nat)} : ∀ (l : List Nat), (∀ c ∈ l, f c = g c) → l.filterMap f = l.filterMap g
  | [], _ => rfl
  | c :: l, h => by
    have hc := h c (by simp)
    have hl := fm_congr l (fun d hd => h d (by simp [hd]))
    simp only [List.filterMap_cons, hc, hl]

theorem seg_congr {T T' : Nat → Nat} {a n : Nat} (h : ∀ c, a ≤ c → c < a + n → T' c = T c) : seg T' a n = seg T a n := by
  unfold seg
  refine fm_congr _ fun c hc => ?_
  rw [List.mem_range'_1] at hc
  rw [h c hc.1 hc.2]

theorem seg_mem {T : Nat → Nat} {a n : Nat} {p : Nat × Nat} (h : p ∈ seg T a n) : a ≤ p.1 ∧ p.1 < a + n ∧ p.2 = T p.1 ∧ T p.1 ≠ 0 := by
  unfold seg at h
  obtain ⟨c, hc, e⟩ := List.mem_filterMap.1 h
  rw [List.mem_range'_1] at hc
  split at e
  · cases e
  · cases e; exact ⟨hc.1, hc.2, rfl, by assumption⟩

theorem seg_len (T : Nat → Nat) (a n : Nat) : (seg T a n).length ≤ n := by
  unfold seg
  have := List.length_filterMap_le (fun c => if T c = 0 then none else some (c, T c)) (List.range' a n)
  simpa using this

/-- One more of the letter c. -/
def bump (T : Nat → Nat) (c : Nat) : Nat → Nat := fun d => if d = c then T d + 1 else T d
theorem bump_same (T : Nat → Nat) (c : Nat) : bump T c c = T c + 1 := by simp [bump]
theorem bump_other (T : Nat → Nat) (c d : Nat) (h : d ≠ c) : bump T c d = T d := by simp [bump, h]

/-- The whole, parted at the letter c. -/
theorem seg_part (T : Nat → Nat) (c : Nat) (hc : c < 8) : seg T 0 8 = seg T 0 c ++ (seg T c 1 ++ seg T (c + 1) (7 - c)) := by
  have h1 := seg_add T 0 c (8 - c)
  have h2 := seg_add T c 1 (7 - c)
  rw [show c + (8 - c) = 8 by omega, Nat.zero_add] at h1
  rw [show 1 + (7 - c) = 8 - c by omega] at h2
  rw [h1, h2]

theorem bump_new (T : Nat → Nat) (c : Nat) (hc : c < 8) (h : T c = 0) : seg (bump T c) 0 8 = seg T 0 c ++ ([(c, 1)] ++ seg T (c + 1) (7 - c)) := by
  rw [seg_part (bump T c) c hc, seg_one_some (by rw [bump_same]; omega), bump_same, h]
  rw [seg_congr (T' := bump T c) (T := T) (a := 0) (n := c) (fun d _ hd => bump_other T c d (by omega)), seg_congr (T' := bump T c) (T := T) (a := c + 1) (n := 7 - c) (fun d hd _ => bump_other T c d (by omega))]

theorem bump_old (T : Nat → Nat) (c : Nat) (hc : c < 8) : seg (bump T c) 0 8 = seg T 0 c ++ ([(c, T c + 1)] ++ seg T (c + 1) (7 - c)) := by
  rw [seg_part (bump T c) c hc, seg_one_some (by rw [bump_same]; omega), bump_same]
  rw [seg_congr (T' := bump T c) (T := T) (a := 0) (n := c) (fun d _ hd => bump_other T c d (by omega)), seg_congr (T' := bump T c) (T := T) (a := c + 1) (n := 7 - c) (fun d hd _ => bump_other T c d (by omega))]

/-- The cells of a list of entries. -/
def cells (E : List (Nat × Nat)) : List Value := E.flatMap fun p => [.string (nm p.1), .int .u64 (p.2 : Int)]

theorem cells_append (E F : List (Nat × Nat)) : cells (E ++ F) = cells E ++ cells F := by simp [cells]
theorem cells_len (E : List (Nat × Nat)) : (cells E).length = E.length * 2 := by
  induction E with
  | nil => rfl
  | cons p E ih => simp only [cells, List.flatMap_cons, List.length_append, List.length_cons, List.length_nil] at *; omega
theorem cells_take (E F : List (Nat × Nat)) : (cells (E ++ F)).take (E.length * 2) = cells E := by rw [cells_append, List.take_append_of_le_length (by rw [cells_len]; exact Nat.le_refl _), List.take_of_length_le (by rw [cells_len]; exact Nat.le_refl _)]
theorem cells_drop (E F : List (Nat × Nat)) : (cells (E ++ F)).drop (E.length * 2) = cells F := by rw [cells_append, ← cells_len E, List.drop_append_of_le_length (Nat.le_refl _), List.drop_length]; simp
theorem cells_get (E : List (Nat × Nat)) (i : Nat) (p : Nat × Nat) (h : E[i]? = some p) : (cells E)[i * 2]? = some (.string (nm p.1)) ∧ (cells E)[i * 2 + 1]? = some (.int .u64 (p.2 : Int)) := by
  induction E generalizing i with
  | nil => simp at h
  | cons q E ih =>
    cases i with
    | zero => simp at h; subst h; simp [cells]
    | succ i =>
      have := ih i (by simpa using h)
      have e : cells (q :: E) = [.string (nm q.1), .int .u64 (q.2 : Int)] ++ cells E := rfl
      rw [e, List.getElem?_append_right (by simp; omega), List.getElem?_append_right (by simp; omega)]
      simpa [show (i + 1) * 2 - 2 = i * 2 by omega, show (i + 1) * 2 + 1 - 2 = i * 2 + 1 by omega] using this
theorem cells_one (E : List (Nat × Nat)) : ∀ u ∈ cells E, u.oneCell' = true := by
  intro u hu
  obtain ⟨p, _, hp⟩ := List.mem_flatMap.1 hu
  simp only [List.mem_cons, List.not_mem_nil, or_false] at hp
  rcases hp with rfl | rfl <;> rfl

/-- The letters of the entries, by the place. -/
def let_ (E : List (Nat × Nat)) (i : Nat) : Nat := (E.getD i (0, 0)).1
def cnt (E : List (Nat × Nat)) (i : Nat) : Nat := (E.getD i (0, 0)).2

theorem get_of_lt (E : List (Nat × Nat)) (i : Nat) (h : i < E.length) : E[i]? = some (let_ E i, cnt E i) := by simp [let_, cnt, List.getD, h]

/-- Where the letter c stands, or would stand. -/
theorem place (T : Nat → Nat) (c : Nat) (hc : c < 8) :
    (seg T 0 c).length ≤ (seg T 0 8).length ∧ (∀ i, i < (seg T 0 c).length → let_ (seg T 0 8) i < c) ∧ (∀ i, (seg T 0 c).length ≤ i → i < (seg T 0 8).length → ¬ let_ (seg T 0 8) i < c) := by
  have hp := seg_part T c hc
  refine ⟨by rw [hp, List.length_append]; omega, fun i hi => ?_, fun i hi hi2 => ?_⟩
  · have : (seg T 0 8)[i]? = (seg T 0 c)[i]? := by rw [hp, List.getElem?_append_left hi]
    have hm := seg_mem (List.mem_of_getElem? (i := i) (l := seg T 0 c) (a := (let_ (seg T 0 8) i, cnt (seg T 0 8) i)) (by rw [← this]; exact get_of_lt _ _ (by rw [hp, List.length_append]; omega)))
    simp only at hm
    omega
  · have hg := get_of_lt _ _ hi2
    rw [hp, List.getElem?_append_right hi, ← hp] at hg
    have hm := List.mem_of_getElem? hg
    rw [List.mem_append] at hm
    rcases hm with hm | hm
    · have := seg_mem hm; simp only at this; omega
    · have := seg_mem hm; simp only at this; omega

theorem found_yes (T : Nat → Nat) (c : Nat) (hc : c < 8) (h : T c ≠ 0) : (seg T 0 8)[(seg T 0 c).length]? = some (c, T c) := by
  rw [seg_part T c hc, List.getElem?_append_right (Nat.le_refl _), seg_one_some h]; simp

theorem found_no (T : Nat → Nat) (c : Nat) (hc : c < 8) (h : T c = 0) (hl : (seg T 0 c).length < (seg T 0 8).length) : let_ (seg T 0 8) (seg T 0 c).length ≠ c := by
  have hg := get_of_lt _ _ hl
  have hp := seg_part T c hc
  rw [seg_one_none h] at hp
  rw [hp, List.getElem?_append_right (Nat.le_refl _), ← hp] at hg
  have hm := seg_mem (List.mem_of_getElem? (by simpa using hg))
  simp only at hm
  omega

theorem let_lt (T : Nat → Nat) (i : Nat) (h : i < (seg T 0 8).length) : let_ (seg T 0 8) i < 8 := by
  have := seg_mem (List.mem_of_getElem? (get_of_lt _ _ h))
  simp only at this
  omega
end Go.Proofs.Ybulkcosq.Tick

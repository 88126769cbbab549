/- OUR OWN TEXT. 'zzs4525adistinct' (function 5) by its contract. -/
import Derived.Test.YbulkcoroFmtBase
namespace Go.Proofs.YbulkcoroFmt.Move
open Go.RowKit

/-- Is x among the first m of zs? (a Bool function of our own: the walk does not look into it) -/
def seenIn (zs : List Int) (x : Int) (m : Nat) : Bool := decide (x ∈ zs.take m)

theorem seenIn_zero (zs : List Int) (x : Int) : seenIn zs x 0 = false := by simp [seenIn]
theorem seenIn_hit (zs : List Int) (x : Int) (m : Nat) (hm : m < zs.length) (h : (zs.getD m 0 == x) = true) : seenIn zs x (m + 1) = true := by
  have : zs.getD m 0 = x := by simpa using h
  simp only [seenIn, take_snoc zs m hm, this]; simp
theorem seenIn_miss (zs : List Int) (x : Int) (m : Nat) (hm : m < zs.length) (h : (zs.getD m 0 == x) = false) : seenIn zs x (m + 1) = seenIn zs x m := by
  have : ¬ zs.getD m 0 = x := by simpa using h
  simp only [seenIn, take_snoc zs m hm, List.mem_append, List.mem_singleton, show ¬ x = zs.getD m 0 from fun e => this e.symm, or_false]
theorem dcTo_new (zs : List Int) (k : Nat) (h : seenIn zs (zs.getD k 0) k = false) : dcTo zs (k + 1) = dcTo zs k + 1 := by
  have : ¬ zs.getD k 0 ∈ zs.take k := by simpa [seenIn] using h
  rw [dcTo, if_neg this]
theorem dcTo_old (zs : List Int) (k : Nat) (h : seenIn zs (zs.getD k 0) k = true) : dcTo zs (k + 1) = dcTo zs k := by
  have : zs.getD k 0 ∈ zs.take k := by simpa [seenIn] using h
  rw [dcTo, if_pos this]; rfl

set_option maxHeartbeats 1000000 in
theorem distinct_any (a : Option Addr) (len cap : Nat) (zs : List Int) (w : World) (hr : InRow w a len zs) (hl : len ≤ 1024) :
    Calls Ybaf.prog 5 #[.slice a len cap] w fun e w' => e = .returned (.int .i64 (dcTo zs len)) ∧ ∃ q, w' = w.drewN q := by
  have hsz := hr.size
  go_enter Ybaf.func5, Ybaf.ntmps5
  go_wp2
  go_loopw [3, 9] (fun n i wr => ∃ k : Nat, k ≤ len ∧ i = .int .i64 k ∧ n = .int .i64 (dcTo zs k) ∧ ∃ q, wr = w.drewN q) (fun _ i _ => len - (intOf i).toNat)
  case atStart => exact ⟨0, Nat.zero_le _, rfl, rfl, 0, rfl⟩
  case round =>
    obtain ⟨k, hk, rfl, rfl, q, rfl⟩ := hrel
    have hd := dcTo_le zs k
    by_cases hlt : k < len
    · go_wp2
      generalize hx : zs.getD k 0 = x
      have Hx : Hid (zs.getD k 0 = x) := hx
      clear hx
      go_loopw [5, 6] (fun s j wr => ∃ m : Nat, m ≤ k ∧ j = .int .i64 m ∧ s = .bool (seenIn zs x m) ∧ ∃ q, wr = w.drewN q) (fun _ j _ => k - (intOf j).toNat)
      case atStart => exact ⟨0, Nat.zero_le _, rfl, by rw [seenIn_zero], q, rfl⟩
      case round =>
        obtain ⟨m, hm, rfl, rfl, q2, rfl⟩ := hrel
        by_cases hml : m < k
        · have hik := hr.idx cap k hlt
          have him := hr.idx cap m (by omega)
          have hck := hr.cell k hlt
          have hcm := hr.cell m (by omega)
          rw [Hx.out] at hck
          cases hb : (zs.getD m 0 == x)
          · have hs := seenIn_miss zs x m (by omega) hb
            have HS : Hid (seenIn zs x (m + 1) = seenIn zs x m) := hs
            clear hs
            generalize hy : zs.getD m 0 = y at *
            clear hy
            go_wp2
            go_quiet (fail)
            go_wp2
            go_roundw
            case rel => exact ⟨m + 1, by omega, by go_num, by rw [HS.out], _, rfl⟩
            case measure => simp [intOf]; omega
          · have hs := seenIn_hit zs x m (by omega) hb
            have HS : Hid (seenIn zs x (m + 1) = true) := hs
            clear hs
            generalize hy : zs.getD m 0 = y at *
            clear hy
            go_wp2
            go_quiet (fail)
            go_wp2
            go_roundw
            case rel => exact ⟨m + 1, by omega, by go_num, by rw [HS.out], _, rfl⟩
            case measure => simp [intOf]; omega
        · have hmk : m = k := by omega
          subst hmk
          cases hb : seenIn zs x m
          · have hs := dcTo_new zs m (by rw [Hx.out]; exact hb)
            have HS : Hid (dcTo zs (m + 1) = dcTo zs m + 1) := hs
            clear hs
            go_wp2
            go_roundw
            case rel => exact ⟨m + 1, by omega, by go_num, by rw [HS.out]; go_num, _, rfl⟩
            case measure => simp [intOf]; omega
          · have hs := dcTo_old zs m (by rw [Hx.out]; exact hb)
            have HS : Hid (dcTo zs (m + 1) = dcTo zs m) := hs
            clear hs
            go_wp2
            go_roundw
            case rel => exact ⟨m + 1, by omega, by go_num, by rw [HS.out], _, rfl⟩
            case measure => simp [intOf]; omega
    · go_wp2
      go_ret
      have : k = len := by omega
      subst this
      exact ⟨rfl, q, rfl⟩
end Go.Proofs.YbulkcoroFmt.Move

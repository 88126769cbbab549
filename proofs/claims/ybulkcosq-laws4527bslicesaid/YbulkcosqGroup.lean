/- OUR OWN TEXT. (*body).group (7) by its contracts. -/
import Derived.Test.YbulkcosqBase
namespace Go.Proofs.Ybulkcosq.Slice
open Go.RowKit Go.Proofs.Ybulkcosq.Own

theorem group_none (N len cap k b : Nat) (w : World) (hk : 2 * k + 1 < len) (hl : len ≤ 4096) (h0 : w.cell? ⟨N, 2 * k, none⟩ = some (.int .i64 (-1))) :
    Calls Yba.prog 7 #[.pointer (some ⟨b, 0, none⟩), .slice (some ⟨N, 0, none⟩) len cap, .int .i64 k] w fun e w' => e = .returned (.string ⟨#[]⟩) ∧ ∃ q, w' = w.drewN q := by
  go_enter Yba.func7, Yba.ntmps7
  go_wp2
  go_ret
  exact ⟨rfl, 0, rfl⟩

theorem group_some (N len cap k b lo hi : Nat) (text : ByteArray) (w : World) (hk : 2 * k + 1 < len) (hl : len ≤ 4096) (h0 : w.cell? ⟨N, 2 * k, none⟩ = some (.int .i64 lo)) (h1 : w.cell? ⟨N, 2 * k + 1, none⟩ = some (.int .i64 hi))
    (ht : w.cell? ⟨b, 0, none⟩ = some (.string text)) (hlo : lo ≤ hi) (hhi : hi ≤ text.size) :
    Calls Yba.prog 7 #[.pointer (some ⟨b, 0, none⟩), .slice (some ⟨N, 0, none⟩) len cap, .int .i64 k] w fun e w' => e = .returned (.string (text.extract lo hi)) ∧ ∃ q, w' = w.drewN q := by
  have i0 : (0 : Int) ≤ 2 * (k : Int) ∧ 2 * (k : Int) < (len : Int) := by omega
  have i1 : (0 : Int) ≤ 2 * (k : Int) + 1 ∧ 2 * (k : Int) + 1 < (len : Int) := by omega
  go_enter Yba.func7, Yba.ntmps7
  go_wp2
  go_quiet (fail)
  go_wp2
  go_ret
  exact ⟨rfl, _, rfl⟩
end Go.Proofs.Ybulkcosq.Slice

/-
  A PROOF OF 'Rows.LawS4537BDueSaid' (sip.LawS4537BDue): the frame after the kit's own shells; the walks are ours.
-/
import Derived.Test.YbulkcoyaLawWalk
import Derived.ProofKit
import Derived.OpenShut
import Derived.ShutString
import Derived.ChangeOld
import Derived.Below
import Derived.Deep.Slices
namespace Go.Proofs.Ybulkcoya.lawS4537BDue
open Go.ChangeShapes Go.WideShapes Go.ChangeAt Go.RowKit Go.Proofs.Ybulkcoya.Due
set_option linter.unusedVariables false

theorem own : ownKnob Yba.prog.godebug = none := by kernel_rfl
theorem laidOut : laidOutB Yba.prog = true := by kernel_rfl
theorem cells27 : Yba.prog.cellsOf 27 = 4 := by kernel_rfl
theorem cells25 : Yba.prog.cellsOf 25 = 1 := by kernel_rfl
theorem cells5 : Yba.prog.cellsOf 5 = 1 := by kernel_rfl

theorem u32_bd {x : Int} (h : (Lit.int .u32 x).wf = true) : ∃ n : Nat, x = (n : Int) ∧ n < 4294967296 := by
  simp only [Lit.wf, Bool.and_eq_true, decide_eq_true_eq] at h
  have hmin : IntKind.u32.min = 0 := rfl
  have hmax : IntKind.u32.max = 4294967295 := rfl
  exact ⟨x.toNat, by omega, by omega⟩
theorem u8_bd {x : Int} (h : (Lit.int .u8 x).wf = true) : ∃ n : Nat, x = (n : Int) ∧ n < 256 := by
  simp only [Lit.wf, Bool.and_eq_true, decide_eq_true_eq] at h
  have hmin : IntKind.u8.min = 0 := rfl
  have hmax : IntKind.u8.max = 255 := rfl
  exact ⟨x.toNat, by omega, by omega⟩

/-- One client, from its four cells. -/
theorem open_one {H : Type} {enc : TypeId × Value → H} {W : World} {m : Nat} {cs : List Value} {y : DataW H × List MemPlace} (hl : cs.length = 4) (h : DataW.trod enc Yba.prog W 0 (fun _ => true) true m 27 cs = some y) :
    ∃ A B F M : Nat, cs = [.int .u32 (A : Int), .int .u32 (B : Int), .int .u8 (F : Int), .int .u8 (M : Int)] ∧ A < 4294967296 ∧ B < 4294967296 ∧ F < 256 ∧ M < 256 := by
  obtain ⟨xs, k, hk, _, _, hxl, hf⟩ := DataW.trod_struct Yba.underlying27 h
  match xs, hxl, cs, hl with
  | [y0, y1, y2, y3], _, [v0, v1, v2, v3], _ =>
    have g0 := hf 0 _ rfl
    have g1 := hf 1 _ rfl
    have g2 := hf 2 _ rfl
    have g3 := hf 3 _ rfl
    simp [cells25, cells5] at g0 g1 g2 g3
    obtain ⟨A, e0, _, wA⟩ := DataW.trod_int Yba.underlying25 g0
    obtain ⟨B, e1, _, wB⟩ := DataW.trod_int Yba.underlying25 g1
    obtain ⟨F, e2, _, wF⟩ := DataW.trod_int Yba.underlying5 g2
    obtain ⟨M, e3, _, wM⟩ := DataW.trod_int Yba.underlying5 g3
    simp at e0 e1 e2 e3
    obtain ⟨A, rfl, hA⟩ := u32_bd wA
    obtain ⟨B, rfl, hB⟩ := u32_bd wB
    obtain ⟨F, rfl, hF⟩ := u8_bd wF
    obtain ⟨M, rfl, hM⟩ := u8_bd wM
    exact ⟨A, B, F, M, by rw [e0, e1, e2, e3], hA, hB, hF, hM⟩

theorem open_all {H : Type} {enc : TypeId × Value → H} {W : World} {a : Option Addr} {n cap : Nat} {d : DataW H} {p : List MemPlace}
    (h : DataW.Trod enc Yba.prog W 0 (fun _ => true) true 22 (.slice a n cap) d p) : ∃ X Y F M, Ins W a n X Y F M ∧ n ≤ maxLen := by
  obtain ⟨fuel, hf⟩ := h
  rcases Deep.open_slice Yba.underlying22 hf with ⟨hcs, _⟩ | ⟨x, len, c, m, k, D, Pl, hcs, _, hl, hm, hmm, _, hx⟩
  · simp [Value.cells] at hcs
    obtain ⟨rfl, rfl, rfl⟩ := hcs
    exact ⟨fun _ => 0, fun _ => 0, fun _ => 0, fun _ => 0, ⟨by simp, by simp, by simp, by simp, by simp, by simp⟩, Nat.zero_le _⟩
  · simp [Value.cells] at hcs
    obtain ⟨rfl, rfl, rfl⟩ := hcs
    have each : ∀ i, i < n → ∃ q : Nat × Nat × Nat × Nat, W.cell? (cellOf (some x) (i * 4)) = some (.int .u32 (q.1 : Int)) ∧ W.cell? (cellOf (some x) (i * 4 + 1)) = some (.int .u32 (q.2.1 : Int)) ∧ W.cell? (cellOf (some x) (i * 4 + 2)) = some (.int .u8 (q.2.2.1 : Int)) ∧ W.cell? (cellOf (some x) (i * 4 + 3)) = some (.int .u8 (q.2.2.2 : Int)) ∧ (q.1 < 4294967296 ∧ q.2.1 < 4294967296 ∧ q.2.2.1 < 256 ∧ q.2.2.2 < 256) := by
      intro i hi
      obtain ⟨cs', h1, h2⟩ := hx i (by simp at hmm; omega)
      rw [cells27] at h1
      obtain ⟨_, hlen, hcell⟩ := World.cells?_some h1
      obtain ⟨A, B, F, M, rfl, hb⟩ := open_one hlen h2
      have e0 := hcell 0 (by omega)
      have e1 := hcell 1 (by omega)
      have e2 := hcell 2 (by omega)
      have e3 := hcell 3 (by omega)
      rw [Due.add_add] at e0 e1 e2 e3
      exact ⟨(A, B, F, M), by simpa [cellOf] using e0, by simpa [cellOf] using e1, by simpa [cellOf] using e2, by simpa [cellOf] using e3, hb⟩
    obtain ⟨q, hq⟩ := Deep.choose_lt each
    exact ⟨fun i => (q i).1, fun i => (q i).2.1, fun i => (q i).2.2.1, fun i => (q i).2.2.2, ⟨fun _ => rfl, fun i hi => (hq i hi).1, fun i hi => (hq i hi).2.1, fun i hi => (hq i hi).2.2.1, fun i hi => (hq i hi).2.2.2.1, fun i hi => (hq i hi).2.2.2.2⟩, Nat.le_trans hl hm⟩

set_option maxRecDepth 100000 in
theorem lifted (os : Os) (started : os.Started) (H : Type) (enc : TypeId × Value → H) :
    ReturnsInHanded {} Yba.checked os 3 .any (Rows.lawS4537BDueSpec.pre6 enc Yba.prog Yba.f3 Rows.lawS4537BDueRow.domain false) (Rows.lawS4537BDueSpec.post enc Yba.prog Yba.f3 false true false false) := by
  refine returnsInHanded_of_change (C := Yba.checked) own started (by kernel_rfl) Yba.func3
    (ChangeSpec.witness6 (enc := enc) (C := Yba.checked) false ⟨#[], #[.slice none 0 0], []⟩ 8 (by kernel_rfl) (by kernel_rfl) (by kernel_rfl) (by kernel_rfl)) ?_
  intro W base args ds gs before hval0 hW hcnd _
  have hval : ∀ (j : Nat) t v, Yba.f3.params[j]? = some t → args[j]? = some v → Value.okWide Yba.prog W .any base t v := hval0
  have hW' := hW
  obtain ⟨p, q, hA0, hV, rfl, hfz, hnd⟩ := hW
  have hA : DataW.TrodAll enc Yba.prog W 0 (fun _ => true) true Yba.f3.params.toList args.toList ds p := hA0
  rw [Yba.params3] at hA hval
  obtain ⟨v0, vs0, d0, ds0, p0, q0, hargs, rfl, rfl, h0, r0⟩ := trodAll_cons hA
  obtain ⟨rfl, rfl, rfl⟩ := trodAll_nil r0
  obtain rfl : args = #[v0] := by cases args; simp_all
  obtain ⟨rfl, rfl⟩ := trodVars_none hV
  obtain ⟨a0, n0, c0, rfl⟩ := okWide_slice Yba.underlying22 (hval 0 22 v0 rfl rfl)
  have lt0 : ∀ x ∈ p0, x.block < W.heap.size := by obtain ⟨m, hm⟩ := h0; exact DataW.trod_lt m _ _ _ hm
  obtain ⟨X, Y, F, M, sp, m0⟩ := open_all h0
  clear hA0 hval0
  have hwalk : Calls Yba.prog 3 #[.slice a0 n0 c0] W fun e w' => e = .returned (.bool true) ∧ Below W.heap.size W w' := by
    by_cases hb : 1024 < n0
    · exact law_big a0 n0 c0 W hb m0
    · exact law_main a0 n0 c0 X Y F M W sp (by omega)
  refine hwalk.mono fun e W' ⟨he, bel⟩ => ?_
  subst he
  exact ⟨_, rfl, _, _, _, [], _, [], hW', trodAll_mk1 (shut_bool Yba.underlying4 _), (trodAll_cons_mk (Below.trod laidOut (by kernel_rfl) (of_decide_eq_true (by kernel_rfl)) h0 bel lt0) trodAll_mk0), rfl, bel.frame _, fun h => by cases h⟩

theorem over : Rows.lawS4537BDueRow.holds Yba.pinned (OpenSpec.ofChange Rows.lawS4537BDueSpec) :=
  OpenClaim.holds_of_wide 3 Yba.f3 rfl rfl rfl rfl rfl rfl rfl ⟨rfl, rfl, rfl, rfl, rfl⟩ rfl rfl rfl rfl rfl (by kernel_rfl) Yba.func3 (by kernel_rfl)
    (of_decide_eq_true (by kernel_rfl)) (by unfold Func.isWrapper; first | (rw [if_pos (by decide +kernel)]; kernel_rfl) | (rw [if_neg (by decide +kernel)]; exact ⟨rfl, rfl⟩))
    (fun os started H enc _ => lifted os started H enc)

theorem proved : Rows.LawS4537BDueSaid := over
end Go.Proofs.Ybulkcoya.lawS4537BDue

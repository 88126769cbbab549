/-
  A PROOF OF 'Rows.LawS4527BSliceSaid' (vclog.LawS4527BSlice): the frame after the kit's own shells; the walks are ours.
-/
import Derived.Test.YbulkcosqSliceWalk
import Derived.ProofKit
import Derived.OpenShut
import Derived.ShutString
import Derived.ChangeOld
import Derived.Below
import Derived.Deep.Slices
namespace Go.Proofs.Ybulkcosq.lawS4527BSlice
open Go.ChangeShapes Go.WideShapes Go.ChangeAt Go.RowKit Go.Proofs.Ybulkcosq.Own Go.Proofs.Ybulkcosq.Slice
open Go.ChangeMaps (open_string shut_string)
set_option linter.unusedVariables false

theorem own : ownKnob Yba.prog.godebug = none := by kernel_rfl
theorem laidOut : laidOutB Yba.prog = true := by kernel_rfl
theorem cells26 : Yba.prog.cellsOf 26 = 3 := by kernel_rfl
theorem cells23 : Yba.prog.cellsOf 23 = 1 := by kernel_rfl
theorem cells4 : Yba.prog.cellsOf 4 = 1 := by kernel_rfl

theorem u16_bd {x : Int} (h : (Lit.int .u16 x).wf = true) : 0 ≤ x ∧ x ≤ 65535 := by
  simp only [Lit.wf, Bool.and_eq_true, decide_eq_true_eq] at h
  have hmin : IntKind.u16.min = 0 := rfl
  have hmax : IntKind.u16.max = 65535 := rfl
  omega

/-- One span, from its three cells. -/
theorem open_span {H : Type} {enc : TypeId × Value → H} {W : World} {m : Nat} {cs : List Value} {y : DataW H × List MemPlace} (hl : cs.length = 3) (h : DataW.trod enc Yba.prog W 0 (fun _ => true) true m 26 cs = some y) :
    ∃ A B S, cs = [.int .u16 A, .int .u16 B, .bool S] ∧ (0 ≤ A ∧ A ≤ 65535) ∧ (0 ≤ B ∧ B ≤ 65535) := by
  obtain ⟨xs, k, hk, _, _, hxl, hf⟩ := DataW.trod_struct Yba.underlying26 h
  match xs, hxl, cs, hl with
  | [y0, y1, y2], _, [v0, v1, v2], _ =>
    have g0 := hf 0 _ rfl
    have g1 := hf 1 _ rfl
    have g2 := hf 2 _ rfl
    simp [cells23, cells4] at g0 g1 g2
    obtain ⟨A, e0, _, wA⟩ := DataW.trod_int Yba.underlying23 g0
    obtain ⟨B, e1, _, wB⟩ := DataW.trod_int Yba.underlying23 g1
    obtain ⟨S, e2, _⟩ := DataW.trod_bool Yba.underlying4 g2
    simp at e0 e1 e2
    exact ⟨A, B, S, by rw [e0, e1, e2], u16_bd wA, u16_bd wB⟩

theorem open_spans {H : Type} {enc : TypeId × Value → H} {W : World} {a : Option Addr} {n cap : Nat} {d : DataW H} {p : List MemPlace}
    (h : DataW.Trod enc Yba.prog W 0 (fun _ => true) true 22 (.slice a n cap) d p) : ∃ SA SB SS, Spans W a n SA SB SS ∧ n ≤ maxLen := by
  obtain ⟨fuel, hf⟩ := h
  rcases Deep.open_slice Yba.underlying22 hf with ⟨hcs, _⟩ | ⟨x, len, c, m, k, D, Pl, hcs, _, hl, hm, hmm, _, hx⟩
  · simp [Value.cells] at hcs
    obtain ⟨rfl, rfl, rfl⟩ := hcs
    exact ⟨fun _ => 0, fun _ => 0, fun _ => false, ⟨by simp, by simp, by simp, by simp, by simp, by simp⟩, Nat.zero_le _⟩
  · simp [Value.cells] at hcs
    obtain ⟨rfl, rfl, rfl⟩ := hcs
    have each : ∀ i, i < n → ∃ q : Int × Int × Bool, W.cell? (cellOf (some x) (i * 3)) = some (.int .u16 q.1) ∧ W.cell? (cellOf (some x) (i * 3 + 1)) = some (.int .u16 q.2.1) ∧ W.cell? (cellOf (some x) (i * 3 + 2)) = some (.bool q.2.2) ∧ (0 ≤ q.1 ∧ q.1 ≤ 65535) ∧ (0 ≤ q.2.1 ∧ q.2.1 ≤ 65535) := by
      intro i hi
      obtain ⟨cs', h1, h2⟩ := hx i (by simp at hmm; omega)
      rw [cells26] at h1
      obtain ⟨_, hlen, hcell⟩ := World.cells?_some h1
      obtain ⟨A, B, S, rfl, hA, hB⟩ := open_span hlen h2
      have e0 := hcell 0 (by omega)
      have e1 := hcell 1 (by omega)
      have e2 := hcell 2 (by omega)
      rw [Own.add_add] at e0 e1 e2
      exact ⟨(A, B, S), by simpa [cellOf] using e0, by simpa [cellOf] using e1, by simpa [cellOf] using e2, hA, hB⟩
    obtain ⟨q, hq⟩ := Deep.choose_lt each
    exact ⟨fun i => (q i).1, fun i => (q i).2.1, fun i => (q i).2.2, ⟨fun _ => rfl, fun i hi => (hq i hi).1, fun i hi => (hq i hi).2.1, fun i hi => (hq i hi).2.2.1, fun i hi => (hq i hi).2.2.2.1, fun i hi => (hq i hi).2.2.2.2⟩, Nat.le_trans hl hm⟩

set_option maxRecDepth 100000 in
theorem lifted (os : Os) (started : os.Started) (H : Type) (enc : TypeId × Value → H) :
    ReturnsInHanded {} Yba.checked os 3 .any (Rows.lawS4527BSliceSpec.pre6 enc Yba.prog Yba.f3 Rows.lawS4527BSliceRow.domain false) (Rows.lawS4527BSliceSpec.post enc Yba.prog Yba.f3 false true false false) := by
  refine returnsInHanded_of_change (C := Yba.checked) own started (by kernel_rfl) Yba.func3
    (ChangeSpec.witness6 (enc := enc) (C := Yba.checked) false ⟨#[], #[.string ByteArray.empty, .slice none 0 0, .int .u16 0], []⟩ 8 (by kernel_rfl) (by kernel_rfl) (by kernel_rfl) (by kernel_rfl)) ?_
  intro W base args ds gs before hval0 hW hcnd _
  have hval : ∀ (j : Nat) t v, Yba.f3.params[j]? = some t → args[j]? = some v → Value.okWide Yba.prog W .any base t v := hval0
  have hW' := hW
  obtain ⟨p, q, hA0, hV, rfl, hfz, hnd⟩ := hW
  have hA : DataW.TrodAll enc Yba.prog W 0 (fun _ => true) true Yba.f3.params.toList args.toList ds p := hA0
  rw [Yba.params3] at hA hval
  obtain ⟨v0, vs0, d0, ds0, p0, q0, hargs, rfl, rfl, h0, r0⟩ := trodAll_cons hA
  obtain ⟨v1, vs1, d1, ds1, p1, q1, rfl, rfl, rfl, h1, r1⟩ := trodAll_cons r0
  obtain ⟨v2, vs2, d2, ds2, p2, q2, rfl, rfl, rfl, h2, r2⟩ := trodAll_cons r1
  obtain ⟨rfl, rfl, rfl⟩ := trodAll_nil r2
  obtain rfl : args = #[v0, v1, v2] := by cases args; simp_all
  obtain ⟨rfl, rfl⟩ := trodVars_none hV
  obtain ⟨a0, rfl, rfl, rfl, w0⟩ := open_string Yba.underlying9 (hval 0 9 v0 rfl rfl) h0
  obtain ⟨a1, n1, c1, rfl⟩ := okWide_slice Yba.underlying22 (hval 1 22 v1 rfl rfl)
  obtain ⟨a2, rfl, rfl, rfl, w2⟩ := open_int Yba.underlying23 (hval 2 23 v2 rfl rfl) h2
  have lt1 : ∀ x ∈ p1, x.block < W.heap.size := by obtain ⟨m, hm⟩ := h1; exact DataW.trod_lt m _ _ _ hm
  obtain ⟨SA, SB, SS, sp, m1⟩ := open_spans h1
  clear hA0 hval0
  have hwalk : Calls Yba.prog 3 #[.string a0, .slice a1 n1 c1, .int .u16 a2] W fun e w' => e = .returned (.bool true) ∧ Below W.heap.size W w' := by
    by_cases hb : 1024 < n1 ∨ 65536 < a0.size
    · exact law_big a0 a2 a1 n1 c1 W hb m1 w0
    · exact law_main a0 a2 a1 n1 c1 SA SB SS W sp (by omega) (by omega) (u16_bd w2)
  refine hwalk.mono fun e W' ⟨he, bel⟩ => ?_
  subst he
  exact ⟨_, rfl, _, _, _, [], _, [], hW', trodAll_mk1 (shut_bool Yba.underlying4 _), (trodAll_cons_mk (shut_string Yba.underlying9 w0) (trodAll_cons_mk (Below.trod laidOut (by kernel_rfl) (of_decide_eq_true (by kernel_rfl)) h1 bel lt1) (trodAll_cons_mk (shut_int Yba.underlying23 w2) trodAll_mk0))), rfl, bel.frame _, fun h => by cases h⟩

theorem over : Rows.lawS4527BSliceRow.holds Yba.pinned (OpenSpec.ofChange Rows.lawS4527BSliceSpec) :=
  OpenClaim.holds_of_wide 3 Yba.f3 rfl rfl rfl rfl rfl rfl rfl ⟨rfl, rfl, rfl, rfl, rfl⟩ rfl rfl rfl rfl rfl (by kernel_rfl) Yba.func3 (by kernel_rfl)
    (of_decide_eq_true (by kernel_rfl)) (by unfold Func.isWrapper; first | (rw [if_pos (by decide +kernel)]; kernel_rfl) | (rw [if_neg (by decide +kernel)]; exact ⟨rfl, rfl⟩))
    (fun os started H enc _ => lifted os started H enc)

theorem proved : Rows.LawS4527BSliceSaid := over
end Go.Proofs.Ybulkcosq.lawS4527BSlice

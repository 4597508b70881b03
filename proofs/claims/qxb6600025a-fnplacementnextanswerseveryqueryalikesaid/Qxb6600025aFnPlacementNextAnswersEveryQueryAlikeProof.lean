/- The proof of 'Rows.FnPlacementNextAnswersEveryQueryAlikeSaid': the frame is that of the given shells over slices, turned to slices of strings and of slices of strings; the walk is taken from the texts imported here. -/
import Derived.Test.Qxb6600025aRows
import Derived.WalkKit
import Derived.ProofKit
import Derived.OpenShut
import Derived.ShutString
import Derived.ChangeOld
import Derived.Below
import Derived.Test.Qxb6600025aAns
import Derived.Test.Qxb6600025aOpen
namespace Go.Proofs.Qxb6600025a.fnPlacementNextAnswersEveryQueryAlike
open Go.ChangeShapes Go.WideShapes Go.ChangeAt Go.RowKit
set_option linter.unusedVariables false

theorem own : ownKnob Try.prog.godebug = none := by kernel_rfl
theorem laidOut : laidOutB Try.prog = true := by kernel_rfl

/-! ### the row's step -/
set_option maxRecDepth 100000 in
theorem lifted (os : Os) (started : os.Started) (H : Type) (enc : TypeId × Value → H) :
    ReturnsInHanded {} Try.checked os 5 .any (Rows.fnPlacementNextAnswersEveryQueryAlikeSpec.pre6 enc Try.prog Try.f5 Rows.fnPlacementNextAnswersEveryQueryAlikeRow.domain false) (Rows.fnPlacementNextAnswersEveryQueryAlikeSpec.post enc Try.prog Try.f5 false true false false) := by
  refine returnsInHanded_of_change (C := Try.checked) own started (by kernel_rfl) Try.func5
    (ChangeSpec.witness6 (enc := enc) (C := Try.checked) false ⟨#[], #[.int .u64 0, .slice none 0 0, .slice none 0 0, .slice none 0 0], []⟩ 8 (by kernel_rfl) (by kernel_rfl) (by kernel_rfl) (by kernel_rfl)) ?_
  intro W base args ds gs before hval0 hW hcnd _
  have hval : ∀ (j : Nat) t v, Try.f5.params[j]? = some t → args[j]? = some v → Value.okWide Try.prog W .any base t v := hval0
  have hW' := hW
  obtain ⟨p, q, hA0, hV, rfl, hfz, hnd⟩ := hW
  have hA : DataW.TrodAll enc Try.prog W 0 (fun _ => true) true Try.f5.params.toList args.toList ds p := hA0
  rw [Try.params5] at hA hval
  obtain ⟨v0, vs0, d0, ds0, p0, q0, hargs, rfl, rfl, h0, r0⟩ := trodAll_cons hA
  obtain ⟨v1, vs1, d1, ds1, p1, q1, rfl, rfl, rfl, h1, r1⟩ := trodAll_cons r0
  obtain ⟨v2, vs2, d2, ds2, p2, q2, rfl, rfl, rfl, h2, r2⟩ := trodAll_cons r1
  obtain ⟨v3, vs3, d3, ds3, p3, q3, rfl, rfl, rfl, h3, r3⟩ := trodAll_cons r2
  obtain ⟨rfl, rfl, rfl⟩ := trodAll_nil r3
  obtain rfl : args = #[v0, v1, v2, v3] := by cases args; simp_all
  obtain ⟨rfl, rfl⟩ := trodVars_none hV
  obtain ⟨a0, rfl, rfl, rfl, w0⟩ := open_int Try.underlying22 (hval 0 22 v0 rfl rfl) h0
  obtain ⟨a1, len1, cap1, rfl⟩ := okWide_slice Try.underlying23 (hval 1 23 v1 rfl rfl)
  obtain ⟨a2, len2, cap2, rfl⟩ := okWide_slice Try.underlying24 (hval 2 24 v2 rfl rfl)
  obtain ⟨a3, len3, cap3, rfl⟩ := okWide_slice Try.underlying23 (hval 3 23 v3 rfl rfl)
  have k1 := h1
  have lt1 : ∀ x ∈ p1, x.block < W.heap.size := by obtain ⟨m, hm⟩ := k1; exact DataW.trod_lt m _ _ _ hm
  have k2 := h2
  have lt2 : ∀ x ∈ p2, x.block < W.heap.size := by obtain ⟨m, hm⟩ := k2; exact DataW.trod_lt m _ _ _ hm
  have k3 := h3
  have lt3 : ∀ x ∈ p3, x.block < W.heap.size := by obtain ⟨m, hm⟩ := k3; exact DataW.trod_lt m _ _ _ hm
  obtain ⟨rows, x1, x2, x3, x4, x5⟩ : ∃ rows, RdR W a1 len1 rows ∧ ShortR rows ∧ len1 ≤ cap1 ∧ cap1 ≤ maxLen ∧ (a1 = none → cap1 = 0) := by
    obtain ⟨fuel, hf⟩ := h1
    exact openR hf
  obtain ⟨lost, y1, y2, y3, y4, y5⟩ : ∃ ss, RdS W a2 len2 ss ∧ Short ss ∧ len2 ≤ cap2 ∧ cap2 ≤ maxLen ∧ (a2 = none → cap2 = 0) := by
    obtain ⟨fuel, hf⟩ := h2
    exact openS hf
  obtain ⟨stale, z1, z2, z3, z4, z5⟩ : ∃ rows, RdR W a3 len3 rows ∧ ShortR rows ∧ len3 ≤ cap3 ∧ cap3 ≤ maxLen ∧ (a3 = none → cap3 = 0) := by
    obtain ⟨fuel, hf⟩ := h3
    exact openR hf
  clear hA0 hval0
  refine (ans_any a0 a1 a2 a3 len1 cap1 len2 cap2 len3 cap3 rows stale lost W (Nat.le_trans x3 x4) (Nat.le_trans y3 y4) (Nat.le_trans z3 z4) x3 y3 z3 x5 y5 z5 x1 y1 z1 x2 y2 z2).mono fun e W' ⟨he, bel⟩ => ?_
  subst he
  exact ⟨_, rfl, _, _, _, [], _, [], hW', trodAll_mk1 (shut_bool Try.underlying4 _), (trodAll_cons_mk (shut_int Try.underlying22 w0) (trodAll_cons_mk (Below.trod laidOut (by kernel_rfl) (of_decide_eq_true (by kernel_rfl)) k1 bel lt1) (trodAll_cons_mk (Below.trod laidOut (by kernel_rfl) (of_decide_eq_true (by kernel_rfl)) k2 bel lt2) (trodAll_cons_mk (Below.trod laidOut (by kernel_rfl) (of_decide_eq_true (by kernel_rfl)) k3 bel lt3) trodAll_mk0)))), rfl, bel.frame _, fun h => by cases h⟩

theorem over : Rows.fnPlacementNextAnswersEveryQueryAlikeRow.holds Try.pinned (OpenSpec.ofChange Rows.fnPlacementNextAnswersEveryQueryAlikeSpec) :=
  OpenClaim.holds_of_wide 5 Try.f5 rfl rfl rfl rfl rfl rfl rfl ⟨rfl, rfl, rfl, rfl, rfl⟩ rfl rfl rfl rfl rfl (by kernel_rfl) Try.func5 (by kernel_rfl)
    (of_decide_eq_true (by kernel_rfl)) (by unfold Func.isWrapper; first | (rw [if_pos (by decide +kernel)]; kernel_rfl) | (rw [if_neg (by decide +kernel)]; exact ⟨rfl, rfl⟩))
    (fun os started H enc _ => lifted os started H enc)

/-- The statement. -/
theorem proved : Rows.FnPlacementNextAnswersEveryQueryAlikeSaid := over
end Go.Proofs.Qxb6600025a.fnPlacementNextAnswersEveryQueryAlike

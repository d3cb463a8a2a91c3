/-
  PROOF OF 'Rows.FnSessionSameIsAnEquivalenceOnRowsSaid'. The frame is the guide's, after its shell for slices ('Below'); each argument is a struct by value, opened by Qxb6604490aModsOpen; the walk is Qxb6604490aModsTop's.
-/
import Derived.Test.Qxb6604490aModsRows
import Derived.WalkKit
import Derived.ProofKit
import Derived.OpenShut
import Derived.ShutString
import Derived.ChangeOld
import Derived.Below
import Derived.Test.Qxb6604490aModsTop
import Derived.Test.Qxb6604490aModsOpen
namespace Go.Proofs.Qxb6604490aMods.fnSessionSameIsAnEquivalenceOnRows
open Go.ChangeShapes Go.WideShapes Go.ChangeAt Go.RowKit
set_option linter.unusedVariables false

theorem own : ownKnob Trym.prog.godebug = none := by kernel_rfl
theorem laidOut : laidOutB Trym.prog = true := by kernel_rfl

set_option maxRecDepth 100000 in
theorem lifted (os : Os) (started : os.Started) (H : Type) (enc : TypeId × Value → H) :
    ReturnsInHanded {} Trym.checked os 3 .any (Rows.fnSessionSameIsAnEquivalenceOnRowsSpec.pre6 enc Trym.prog Trym.f3 Rows.fnSessionSameIsAnEquivalenceOnRowsRow.domain false) (Rows.fnSessionSameIsAnEquivalenceOnRowsSpec.post enc Trym.prog Trym.f3 false true false false) := by
  refine returnsInHanded_of_change (C := Trym.checked) own started (by kernel_rfl) Trym.func3
    (ChangeSpec.witness6 (enc := enc) (C := Trym.checked) false ⟨#[], #[.agg (row ByteArray.empty ByteArray.empty ByteArray.empty ByteArray.empty ByteArray.empty ByteArray.empty 0 ByteArray.empty ByteArray.empty ByteArray.empty 0 0),
      .agg (row ByteArray.empty ByteArray.empty ByteArray.empty ByteArray.empty ByteArray.empty ByteArray.empty 0 ByteArray.empty ByteArray.empty ByteArray.empty 0 0),
      .agg (row ByteArray.empty ByteArray.empty ByteArray.empty ByteArray.empty ByteArray.empty ByteArray.empty 0 ByteArray.empty ByteArray.empty ByteArray.empty 0 0)], []⟩ 8 (by kernel_rfl) (by kernel_rfl) (by kernel_rfl) (by kernel_rfl)) ?_
  intro W base args ds gs before hval0 hW hcnd _
  have hval : ∀ (j : Nat) t v, Trym.f3.params[j]? = some t → args[j]? = some v → Value.okWide Trym.prog W .any base t v := hval0
  have hW' := hW
  obtain ⟨p, q, hA0, hV, rfl, hfz, hnd⟩ := hW
  have hA : DataW.TrodAll enc Trym.prog W 0 (fun _ => true) true Trym.f3.params.toList args.toList ds p := hA0
  rw [Trym.params3] at hA hval
  obtain ⟨v0, vs0, d0, ds0, p0, q0, hargs, rfl, rfl, h0, r0⟩ := trodAll_cons hA
  obtain ⟨v1, vs1, d1, ds1, p1, q1, rfl, rfl, rfl, h1, r1⟩ := trodAll_cons r0
  obtain ⟨v2, vs2, d2, ds2, p2, q2, rfl, rfl, rfl, h2, r2⟩ := trodAll_cons r1
  obtain ⟨rfl, rfl, rfl⟩ := trodAll_nil r2
  obtain rfl : args = #[v0, v1, v2] := by cases args; simp_all
  obtain ⟨rfl, rfl⟩ := trodVars_none hV
  have lt0 : ∀ x ∈ p0, x.block < W.heap.size := by obtain ⟨m, hm⟩ := h0; exact DataW.trod_lt m _ _ _ hm
  have lt1 : ∀ x ∈ p1, x.block < W.heap.size := by obtain ⟨m, hm⟩ := h1; exact DataW.trod_lt m _ _ _ hm
  have lt2 : ∀ x ∈ p2, x.block < W.heap.size := by obtain ⟨m, hm⟩ := h2; exact DataW.trod_lt m _ _ _ hm
  obtain ⟨a0, a1, a2, a3, a4, a5, ae, a7, a8, a9, ac, aq, rfl⟩ := open_row (hval 0 23 v0 rfl rfl) h0
  obtain ⟨b0, b1, b2, b3, b4, b5, be, b7, b8, b9, bc, bq, rfl⟩ := open_row (hval 1 23 v1 rfl rfl) h1
  obtain ⟨c0, c1, c2, c3, c4, c5, ce, c7, c8, c9, cc, cq, rfl⟩ := open_row (hval 2 23 v2 rfl rfl) h2
  clear hA0 hval0
  refine (law a0 a1 a2 a3 a4 a5 ae a7 a8 a9 ac aq b0 b1 b2 b3 b4 b5 be b7 b8 b9 bc bq c0 c1 c2 c3 c4 c5 ce c7 c8 c9 cc cq W).mono fun e W' ⟨he, bel⟩ => ?_
  subst he
  exact ⟨_, rfl, _, _, _, [], _, [], hW', trodAll_mk1 (shut_bool Trym.underlying4 _), (trodAll_cons_mk (Below.trod laidOut (by kernel_rfl) (of_decide_eq_true (by kernel_rfl)) h0 bel lt0) (trodAll_cons_mk (Below.trod laidOut (by kernel_rfl) (of_decide_eq_true (by kernel_rfl)) h1 bel lt1) (trodAll_cons_mk (Below.trod laidOut (by kernel_rfl) (of_decide_eq_true (by kernel_rfl)) h2 bel lt2) trodAll_mk0))), rfl, bel.frame _, fun h => by cases h⟩

theorem over : Rows.fnSessionSameIsAnEquivalenceOnRowsRow.holds Trym.pinned (OpenSpec.ofChange Rows.fnSessionSameIsAnEquivalenceOnRowsSpec) :=
  OpenClaim.holds_of_wide 3 Trym.f3 rfl rfl rfl rfl rfl rfl rfl ⟨rfl, rfl, rfl, rfl, rfl⟩ rfl rfl rfl rfl rfl (by kernel_rfl) Trym.func3 (by kernel_rfl)
    (of_decide_eq_true (by kernel_rfl)) (by unfold Func.isWrapper; first | (rw [if_pos (by decide +kernel)]; kernel_rfl) | (rw [if_neg (by decide +kernel)]; exact ⟨rfl, rfl⟩))
    (fun os started H enc _ => lifted os started H enc)

/-- THE STATEMENT -/
theorem proved : Rows.FnSessionSameIsAnEquivalenceOnRowsSaid := over
end Go.Proofs.Qxb6604490aMods.fnSessionSameIsAnEquivalenceOnRows

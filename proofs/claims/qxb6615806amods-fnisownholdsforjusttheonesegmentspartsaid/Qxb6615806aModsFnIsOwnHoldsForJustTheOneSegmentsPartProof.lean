/-
  THE PROOF OF 'Rows.FnIsOwnHoldsForJustTheOneSegmentsPartSaid'. The row's step follows the kit's shell for a law with a slice among her arguments (proof-skeleton.mjs), turned to a slice of structs; the walk is own work.
-/
import Derived.Test.Qxb6615806aModsRows
import Derived.Test.Qxb6615806aModsHolds
import Derived.Test.Qxb6615806aModsOpen
import Derived.WalkKit
import Derived.ProofKit
import Derived.OpenShut
import Derived.ChangeOld
import Derived.Below
import Derived.Carry
namespace Go.Proofs.Qxb6615806aMods.fnIsOwnHoldsForJustTheOneSegmentsPart
open Go.ChangeShapes Go.WideShapes Go.ChangeAt Go.RowKit Opened
set_option linter.unusedVariables false

set_option maxRecDepth 100000 in
theorem lifted (os : Os) (started : os.Started) (H : Type) (enc : TypeId × Value → H) :
    ReturnsInHanded {} Trym.checked os 3 .any (Rows.fnIsOwnHoldsForJustTheOneSegmentsPartSpec.pre6 enc Trym.prog Trym.f3 Rows.fnIsOwnHoldsForJustTheOneSegmentsPartRow.domain false) (Rows.fnIsOwnHoldsForJustTheOneSegmentsPartSpec.post enc Trym.prog Trym.f3 false true false false) := by
  refine returnsInHanded_of_change (C := Trym.checked) own started (by kernel_rfl) Trym.func3
    (ChangeSpec.witness6 (enc := enc) (C := Trym.checked) false ⟨#[], #[.slice none 0 0, .int .i64 0, .int .i64 0], []⟩ 8 (by kernel_rfl) (by kernel_rfl) (by kernel_rfl) (by kernel_rfl)) ?_
  intro W base args ds gs before hval0 hW hcnd _
  have hval : ∀ (j : Nat) t v, Trym.f3.params[j]? = some t → args[j]? = some v → Value.okWide Trym.prog W .any base t v := hval0
  have hW' := hW
  obtain ⟨p, q, hA0, hV, rfl, hfz, hnd⟩ := hW
  have hA : DataW.TrodAll enc Trym.prog W 0 (fun _ => true) true Trym.f3.params.toList args.toList ds p := hA0
  rw [Trym.params3] at hA hval
  obtain ⟨v0, vs0, d0, ds0, p0, q0, hargs, rfl, rfl, h0, r0⟩ := trodAll_cons hA
  obtain ⟨v1, vs1, d1, ds1, p1, q1, rfl, rfl, rfl, h1, r1⟩ := trodAll_cons r0
  obtain ⟨v2, vs2, d2, ds2, p2, q2, rfl, rfl, rfl, h2, r2⟩ := trodAll_cons r1
  obtain ⟨rfl, rfl, rfl⟩ := trodAll_nil r2
  obtain rfl : args = #[v0, v1, v2] := by cases args; simp_all
  obtain ⟨rfl, rfl⟩ := trodVars_none hV
  obtain ⟨a0, len0, cap0, rfl⟩ := okWide_slice Trym.underlying22 (hval 0 22 v0 rfl rfl)
  have lt0 : ∀ x ∈ p0, x.block < W.heap.size := by obtain ⟨m, hm⟩ := h0; exact DataW.trod_lt m _ _ _ hm
  obtain ⟨hl, hn, part, text, hr⟩ := row h0
  obtain ⟨a1, rfl, rfl, rfl, w1⟩ := open_int Trym.underlying3 (hval 1 3 v1 rfl rfl) h1
  obtain ⟨a2, rfl, rfl, rfl, w2⟩ := open_int Trym.underlying3 (hval 2 3 v2 rfl rfl) h2
  have hlo : -9223372036854775808 ≤ a1 ∧ a1 ≤ 9223372036854775807 := by
    have h := w1
    simp [Lit.wf, IntKind.min, IntKind.max, IntKind.bits, IntKind.signed] at h
    omega
  clear hA0 hval0
  refine (Holds.walk a0 len0 cap0 part text a1 a2 hl hn hlo.1 hlo.2 W hr).mono fun e W' ⟨he, bel⟩ => ?_
  subst he
  exact ⟨_, rfl, _, _, _, [], _, [], hW', trodAll_mk1 (shut_bool Trym.underlying4 _),
    trodAll_cons_mk (Below.trod laidOut (by kernel_rfl) (of_decide_eq_true (by kernel_rfl)) h0 bel lt0)
      (trodAll_cons_mk (shut_int Trym.underlying3 w1) (trodAll_cons_mk (shut_int Trym.underlying3 w2) trodAll_mk0)),
    rfl, bel.frame _, fun h => by cases h⟩

theorem over : Rows.fnIsOwnHoldsForJustTheOneSegmentsPartRow.holds Trym.pinned (OpenSpec.ofChange Rows.fnIsOwnHoldsForJustTheOneSegmentsPartSpec) :=
  OpenClaim.holds_of_wide 3 Trym.f3 rfl rfl rfl rfl rfl rfl rfl ⟨rfl, rfl, rfl, rfl, rfl⟩ rfl rfl rfl rfl rfl (by kernel_rfl) Trym.func3 (by kernel_rfl)
    (of_decide_eq_true (by kernel_rfl)) (by unfold Func.isWrapper; first | (rw [if_pos (by decide +kernel)]; kernel_rfl) | (rw [if_neg (by decide +kernel)]; exact ⟨rfl, rfl⟩))
    (fun os started H enc _ => lifted os started H enc)

end Go.Proofs.Qxb6615806aMods.fnIsOwnHoldsForJustTheOneSegmentsPart

namespace Go.Proofs.Qxb6615806aMods
/-- The statement. -/
theorem fnIsOwnHoldsForJustTheOneSegmentsPart_holds : Rows.FnIsOwnHoldsForJustTheOneSegmentsPartSaid := fnIsOwnHoldsForJustTheOneSegmentsPart.over
end Go.Proofs.Qxb6615806aMods

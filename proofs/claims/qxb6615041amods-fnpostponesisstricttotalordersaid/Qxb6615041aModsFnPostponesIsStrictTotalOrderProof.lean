/-
  THE PROOF OF 'Rows.FnPostponesIsStrictTotalOrderSaid'. The row's step follows the kit's shell for a law with memory among her arguments (proof-skeleton.mjs), turned to pointers; the walk is own work.
-/
import Derived.Test.Qxb6615041aModsRows
import Derived.Test.Qxb6615041aModsOrder
import Derived.WalkKit
import Derived.ProofKit
import Derived.OpenShut
import Derived.ChangeOld
import Derived.Below
import Derived.Carry
namespace Go.Proofs.Qxb6615041aMods.fnPostponesIsStrictTotalOrder
open Go.ChangeShapes Go.WideShapes Go.ChangeAt Go.RowKit
set_option linter.unusedVariables false

theorem own : ownKnob Trym.prog.godebug = none := by kernel_rfl
theorem laidOut : laidOutB Trym.prog = true := by kernel_rfl
theorem cells2 : Trym.prog.cellsOf 2 = 1 := by kernel_rfl

/-- A pointer to an int64 that can be read as data: nil, or a cell that holds a number. -/
theorem reads {H : Type} {enc : TypeId × Value → H} {W : World} {b0 : Nat} {v : Value} {d : DataW H} {p : List MemPlace}
    (hval : Value.okWide Trym.prog W .any b0 24 v) (hd : DataW.Trod enc Trym.prog W 0 (fun _ => true) true 24 v d p) : ∃ x, Post.Reads W v x := by
  rcases open_ptr_int Trym.underlying24 Trym.underlying2 cells2 hval hd with ⟨rfl, _, _⟩ | ⟨b, o, n, rfl, _, _, hc, hw⟩
  · exact ⟨none, rfl⟩
  · refine ⟨some n, b, o, rfl, hc, ?_⟩
    simp [Lit.wf, IntKind.min, IntKind.max, IntKind.bits, IntKind.signed] at hw
    omega

set_option maxRecDepth 100000 in
theorem lifted (os : Os) (started : os.Started) (H : Type) (enc : TypeId × Value → H) :
    ReturnsInHanded {} Trym.checked os 4 .any (Rows.fnPostponesIsStrictTotalOrderSpec.pre6 enc Trym.prog Trym.f4 Rows.fnPostponesIsStrictTotalOrderRow.domain false) (Rows.fnPostponesIsStrictTotalOrderSpec.post enc Trym.prog Trym.f4 false true false false) := by
  refine returnsInHanded_of_change (C := Trym.checked) own started (by kernel_rfl) Trym.func4
    (ChangeSpec.witness6 (enc := enc) (C := Trym.checked) false ⟨#[], #[.pointer none, .pointer none, .pointer none], []⟩ 8 (by kernel_rfl) (by kernel_rfl) (by kernel_rfl) (by kernel_rfl)) ?_
  intro W base args ds gs before hval0 hW hcnd _
  have hval : ∀ (j : Nat) t v, Trym.f4.params[j]? = some t → args[j]? = some v → Value.okWide Trym.prog W .any base t v := hval0
  have hW' := hW
  obtain ⟨p, q, hA0, hV, rfl, hfz, hnd⟩ := hW
  have hA : DataW.TrodAll enc Trym.prog W 0 (fun _ => true) true Trym.f4.params.toList args.toList ds p := hA0
  rw [Trym.params4] at hA hval
  obtain ⟨v0, vs0, d0, ds0, p0, q0, hargs, rfl, rfl, h0, r0⟩ := trodAll_cons hA
  obtain ⟨v1, vs1, d1, ds1, p1, q1, rfl, rfl, rfl, h1, r1⟩ := trodAll_cons r0
  obtain ⟨v2, vs2, d2, ds2, p2, q2, rfl, rfl, rfl, h2, r2⟩ := trodAll_cons r1
  obtain ⟨rfl, rfl, rfl⟩ := trodAll_nil r2
  obtain rfl : args = #[v0, v1, v2] := by cases args; simp_all
  obtain ⟨rfl, rfl⟩ := trodVars_none hV
  have lt0 : ∀ x ∈ p0, x.block < W.heap.size := by obtain ⟨m, hm⟩ := h0; exact DataW.trod_lt m _ _ _ hm
  have lt1 : ∀ x ∈ p1, x.block < W.heap.size := by obtain ⟨m, hm⟩ := h1; exact DataW.trod_lt m _ _ _ hm
  have lt2 : ∀ x ∈ p2, x.block < W.heap.size := by obtain ⟨m, hm⟩ := h2; exact DataW.trod_lt m _ _ _ hm
  obtain ⟨x0, w0⟩ := reads (hval 0 24 v0 rfl rfl) h0
  obtain ⟨x1, w1⟩ := reads (hval 1 24 v1 rfl rfl) h1
  obtain ⟨x2, w2⟩ := reads (hval 2 24 v2 rfl rfl) h2
  clear hA0 hval0
  refine (Order.walk v0 v1 v2 x0 x1 x2 W w0 w1 w2).mono fun e W' ⟨he, bel⟩ => ?_
  subst he
  exact ⟨_, rfl, _, _, _, [], _, [], hW', trodAll_mk1 (shut_bool Trym.underlying4 _),
    trodAll_cons_mk (Below.trod laidOut (by kernel_rfl) (of_decide_eq_true (by kernel_rfl)) h0 bel lt0)
      (trodAll_cons_mk (Below.trod laidOut (by kernel_rfl) (of_decide_eq_true (by kernel_rfl)) h1 bel lt1)
        (trodAll_cons_mk (Below.trod laidOut (by kernel_rfl) (of_decide_eq_true (by kernel_rfl)) h2 bel lt2) trodAll_mk0)),
    rfl, bel.frame _, fun h => by cases h⟩

theorem over : Rows.fnPostponesIsStrictTotalOrderRow.holds Trym.pinned (OpenSpec.ofChange Rows.fnPostponesIsStrictTotalOrderSpec) :=
  OpenClaim.holds_of_wide 4 Trym.f4 rfl rfl rfl rfl rfl rfl rfl ⟨rfl, rfl, rfl, rfl, rfl⟩ rfl rfl rfl rfl rfl (by kernel_rfl) Trym.func4 (by kernel_rfl)
    (of_decide_eq_true (by kernel_rfl)) (by unfold Func.isWrapper; first | (rw [if_pos (by decide +kernel)]; kernel_rfl) | (rw [if_neg (by decide +kernel)]; exact ⟨rfl, rfl⟩))
    (fun os started H enc _ => lifted os started H enc)

end Go.Proofs.Qxb6615041aMods.fnPostponesIsStrictTotalOrder

namespace Go.Proofs.Qxb6615041aMods
/-- The statement. -/
theorem fnPostponesIsStrictTotalOrder_holds : Rows.FnPostponesIsStrictTotalOrderSaid := fnPostponesIsStrictTotalOrder.over
end Go.Proofs.Qxb6615041aMods

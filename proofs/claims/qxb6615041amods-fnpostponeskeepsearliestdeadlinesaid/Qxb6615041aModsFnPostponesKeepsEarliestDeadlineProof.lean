/-
  THE PROOF OF 'Rows.FnPostponesKeepsEarliestDeadlineSaid'. The row's step follows the kit's shell for a law with a slice among her arguments (proof-skeleton.mjs), turned to a slice of pointers; the walk is own work.
-/
import Derived.Test.Qxb6615041aModsRows
import Derived.Test.Qxb6615041aModsLeast
import Derived.WalkKit
import Derived.ProofKit
import Derived.OpenShut
import Derived.ChangeOld
import Derived.ChangeSlices
import Derived.Below
import Derived.Carry
namespace Go.Proofs.Qxb6615041aMods.fnPostponesKeepsEarliestDeadline
open Go.ChangeShapes Go.WideShapes Go.ChangeAt Go.RowKit
set_option linter.unusedVariables false

theorem own : ownKnob Trym.prog.godebug = none := by kernel_rfl
theorem laidOut : laidOutB Trym.prog = true := by kernel_rfl
theorem cells2 : Trym.prog.cellsOf 2 = 1 := by kernel_rfl
theorem cells24 : Trym.prog.cellsOf 24 = 1 := by kernel_rfl

/-- A cell that reads as a pointer to an int64: nil, or a cell that holds a number. -/
theorem reads {H : Type} {enc : TypeId × Value → H} {W : World} {n : Nat} {cs : List Value} {y : DataW H × List MemPlace}
    (h : DataW.trod enc Trym.prog W 0 (fun _ => true) true n 24 cs = some y) : ∃ v x, cs = [v] ∧ Post.Reads W v x := by
  rcases DataW.trod_pointer Trym.underlying24 h with ⟨rfl, _⟩ | ⟨a, cs', y', m, _, rfl, _, hcs, hy⟩
  · exact ⟨_, none, rfl, rfl⟩
  · obtain ⟨q, rfl, _, hw⟩ := DataW.trod_int Trym.underlying2 hy
    rw [cells2] at hcs
    have hc := cell_of_cells?_one hcs
    obtain ⟨b, o, spot⟩ := a
    have hspot : spot = none := World.cell?_spot hc
    subst hspot
    refine ⟨_, some q, rfl, b, o, rfl, hc, ?_⟩
    simp [Lit.wf, IntKind.min, IntKind.max, IntKind.bits, IntKind.signed] at hw
    omega

theorem row {H : Type} {enc : TypeId × Value → H} {W : World} {a : Option Addr} {len cap : Nat} {d : DataW H} {p : List MemPlace}
    (h : DataW.Trod enc Trym.prog W 0 (fun _ => true) true 22 (.slice a len cap) d p) : len ≤ maxLen ∧ Least.Row W a len := by
  obtain ⟨fuel, hf⟩ := h
  rcases DataW.trod_slice Trym.underlying22 hf with ⟨hcs, _⟩ | ⟨x, l, c, elems, rest, n, _, hcs, _, _, hl, hm, hlen, hel, _⟩
  · simp [Value.cells] at hcs
    obtain ⟨rfl, rfl, rfl⟩ := hcs
    exact ⟨Nat.zero_le _, .inl rfl⟩
  · simp [Value.cells] at hcs
    obtain ⟨rfl, rfl, rfl⟩ := hcs
    refine ⟨Nat.le_trans hl hm, ?_⟩
    by_cases h0 : len = 0
    · exact .inl h0
    · right
      have each : ∀ i, i < len → ∃ v y, W.cell? (x.add i) = some v ∧ Post.Reads W v y := by
        intro i hi
        have hE := hel i hi
        rw [cells24, Nat.mul_one] at hE
        have hi' : i < elems.length := by omega
        rw [List.getElem?_eq_getElem hi', Option.bind_eq_some_iff] at hE
        obtain ⟨cs, hcs, hy⟩ := hE
        obtain ⟨v, y, rfl, hr⟩ := reads hy
        exact ⟨v, y, cell_of_cells?_one hcs, hr⟩
      obtain ⟨b, off, spot⟩ := x
      obtain ⟨v, y, hc, _⟩ := each 0 (by omega)
      have hspot : spot = none := by simpa [Addr.add] using World.cell?_spot hc
      subst hspot
      refine ⟨b, off, rfl, fun i hi => ?_⟩
      obtain ⟨v, y, hc, hr⟩ := each i hi
      exact ⟨v, y, by rwa [add_plain] at hc, hr⟩

set_option maxRecDepth 100000 in
theorem lifted (os : Os) (started : os.Started) (H : Type) (enc : TypeId × Value → H) :
    ReturnsInHanded {} Trym.checked os 3 .any (Rows.fnPostponesKeepsEarliestDeadlineSpec.pre6 enc Trym.prog Trym.f3 Rows.fnPostponesKeepsEarliestDeadlineRow.domain false) (Rows.fnPostponesKeepsEarliestDeadlineSpec.post enc Trym.prog Trym.f3 false true false false) := by
  refine returnsInHanded_of_change (C := Trym.checked) own started (by kernel_rfl) Trym.func3
    (ChangeSpec.witness6 (enc := enc) (C := Trym.checked) false ⟨#[], #[.slice none 0 0], []⟩ 8 (by kernel_rfl) (by kernel_rfl) (by kernel_rfl) (by kernel_rfl)) ?_
  intro W base args ds gs before hval0 hW hcnd _
  have hval : ∀ (j : Nat) t v, Trym.f3.params[j]? = some t → args[j]? = some v → Value.okWide Trym.prog W .any base t v := hval0
  have hW' := hW
  obtain ⟨p, q, hA0, hV, rfl, hfz, hnd⟩ := hW
  have hA : DataW.TrodAll enc Trym.prog W 0 (fun _ => true) true Trym.f3.params.toList args.toList ds p := hA0
  rw [Trym.params3] at hA hval
  obtain ⟨v0, vs0, d0, ds0, p0, q0, hargs, rfl, rfl, h0, r0⟩ := trodAll_cons hA
  obtain ⟨rfl, rfl, rfl⟩ := trodAll_nil r0
  obtain rfl : args = #[v0] := by cases args; simp_all
  obtain ⟨rfl, rfl⟩ := trodVars_none hV
  obtain ⟨a0, len0, cap0, rfl⟩ := okWide_slice Trym.underlying22 (hval 0 22 v0 rfl rfl)
  have lt0 : ∀ x ∈ p0, x.block < W.heap.size := by obtain ⟨m, hm⟩ := h0; exact DataW.trod_lt m _ _ _ hm
  obtain ⟨hl, hr⟩ := row h0
  clear hA0 hval0
  refine (Least.walk a0 len0 cap0 W hl hr).mono fun e W' ⟨he, bel⟩ => ?_
  subst he
  exact ⟨_, rfl, _, _, _, [], _, [], hW', trodAll_mk1 (shut_bool Trym.underlying4 _),
    trodAll_cons_mk (Below.trod laidOut (by kernel_rfl) (of_decide_eq_true (by kernel_rfl)) h0 bel lt0) trodAll_mk0,
    rfl, bel.frame _, fun h => by cases h⟩

theorem over : Rows.fnPostponesKeepsEarliestDeadlineRow.holds Trym.pinned (OpenSpec.ofChange Rows.fnPostponesKeepsEarliestDeadlineSpec) :=
  OpenClaim.holds_of_wide 3 Trym.f3 rfl rfl rfl rfl rfl rfl rfl ⟨rfl, rfl, rfl, rfl, rfl⟩ rfl rfl rfl rfl rfl (by kernel_rfl) Trym.func3 (by kernel_rfl)
    (of_decide_eq_true (by kernel_rfl)) (by unfold Func.isWrapper; first | (rw [if_pos (by decide +kernel)]; kernel_rfl) | (rw [if_neg (by decide +kernel)]; exact ⟨rfl, rfl⟩))
    (fun os started H enc _ => lifted os started H enc)

end Go.Proofs.Qxb6615041aMods.fnPostponesKeepsEarliestDeadline

namespace Go.Proofs.Qxb6615041aMods
/-- The statement. -/
theorem fnPostponesKeepsEarliestDeadline_holds : Rows.FnPostponesKeepsEarliestDeadlineSaid := fnPostponesKeepsEarliestDeadline.over
end Go.Proofs.Qxb6615041aMods

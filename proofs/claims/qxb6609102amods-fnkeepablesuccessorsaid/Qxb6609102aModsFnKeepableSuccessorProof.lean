/-
  THE PROOF OF 'Rows.FnKeepableSuccessorSaid'. The row's step is the kit's shell, written by program; the walk is own work.
-/
import Derived.Test.Qxb6609102aModsRows
import Derived.WalkKit
import Derived.ProofKit
import Derived.OpenShut
import Derived.ShutString
import Derived.Test.Qxb6609102aModsKeep
namespace Go.Proofs.Qxb6609102aMods.fnKeepableSuccessor
open Go.ChangeShapes Go.WideShapes Go.ChangeAt Go.RowKit
open Go.ChangeMaps (open_string shut_string)
set_option linter.unusedVariables false      -- a walk need not use every 'w<i>' (that an integer argument fits its kind)

theorem own : ownKnob Trym.prog.godebug = none := by kernel_rfl

/-! ### STEP 1: THE WALK: the Go text returns true. 'Grown w w'': the world has at most new blocks (Derived/RowKit3.lean). Part the cases AHEAD of 'go_enter' where a test parts the walk; take each callee by a contract of your own. -/
/-- t below 2^31 - 1: t + 1 is in 1 .. 2^31 - 1. -/
theorem walk_lo (a : Int) (h0 : 0 ≤ a) (h : a ≤ 2147483646) (w : World) :
    Calls Trym.prog 4 #[.int .u32 a] w fun e w' => e = .returned (.bool true) ∧ Grown w w' := by
  have hz : (a + 1 != 0) = true := by rw [bne_iff_ne]; omega
  have hz2 : (a + 1 == 0) = false := by rw [beq_eq_false_iff_ne]; omega
  have hl : a + 1 ≤ 2147483647 := by omega
  go_enter Trym.func4, Trym.ntmps4
  go_wp2_with fail
  refine (Keep.zz_lo _ h0 (by omega) _).mono ?_
  rintro e w' ⟨rfl, rfl⟩
  go_wp2_with fail
  refine (Keep.zz_lo _ (by omega) (by omega) _).mono ?_
  rintro e w' ⟨rfl, rfl⟩
  go_wp2_with fail
  go_ret
  exact ⟨rfl, Grown.refl _⟩

/-- t = 2^31 - 1: t + 1 is 2^31. -/
theorem walk_mid (w : World) :
    Calls Trym.prog 4 #[.int .u32 2147483647] w fun e w' => e = .returned (.bool true) ∧ Grown w w' := by
  go_enter Trym.func4, Trym.ntmps4
  go_wp2_with fail
  refine (Keep.zz_lo _ (by omega) (by omega) _).mono ?_
  rintro e w' ⟨rfl, rfl⟩
  go_wp2_with fail
  refine (Keep.zz_hi _ (by omega) _).mono ?_
  rintro e w' ⟨rfl, rfl⟩
  go_wp2_with fail
  go_ret
  exact ⟨rfl, Grown.refl _⟩

/-- t in 2^31 .. 2^32 - 2: t + 1 lies above 2^31. -/
theorem walk_hi (a : Int) (h : 2147483647 < a) (h1 : a ≤ 4294967294) (w : World) :
    Calls Trym.prog 4 #[.int .u32 a] w fun e w' => e = .returned (.bool true) ∧ Grown w w' := by
  have hz : (a + 1 != 0) = true := by rw [bne_iff_ne]; omega
  have hz2 : (a + 1 == 0) = false := by rw [beq_eq_false_iff_ne]; omega
  have hl : ¬ a + 1 ≤ 2147483647 := by omega
  go_enter Trym.func4, Trym.ntmps4
  go_wp2_with fail
  refine (Keep.zz_hi _ h _).mono ?_
  rintro e w' ⟨rfl, rfl⟩
  go_wp2_with fail
  refine (Keep.zz_hi _ (by omega) _).mono ?_
  rintro e w' ⟨rfl, rfl⟩
  go_wp2_with fail
  go_ret
  exact ⟨rfl, Grown.refl _⟩

/-- t = 2^32 - 1: t + 1 wraps to 0. -/
theorem walk_top (w : World) :
    Calls Trym.prog 4 #[.int .u32 4294967295] w fun e w' => e = .returned (.bool true) ∧ Grown w w' := by
  go_enter Trym.func4, Trym.ntmps4
  go_wp2_with fail
  refine (Keep.zz_hi _ (by omega) _).mono ?_
  rintro e w' ⟨rfl, rfl⟩
  go_wp2_with fail
  refine (Keep.zz_lo _ (by omega) (by omega) _).mono ?_
  rintro e w' ⟨rfl, rfl⟩
  go_wp2_with fail
  go_ret
  exact ⟨rfl, Grown.refl _⟩

theorem walk (a0 : Int) (w0 : (Lit.int .u32 a0).wf = true) (w : World) :
    Calls Trym.prog 4 #[.int .u32 a0] w fun e w' => e = .returned (.bool true) ∧ Grown w w' := by
  have hb : 0 ≤ a0 ∧ a0 < 4294967296 := by
    simp [Lit.wf, IntKind.min, IntKind.max, IntKind.bits, IntKind.signed] at w0
    omega
  by_cases h : a0 ≤ 2147483646
  · exact walk_lo a0 hb.1 h w
  · by_cases h2 : a0 = 2147483647
    · rw [h2]; exact walk_mid w
    · by_cases h3 : a0 = 4294967295
      · rw [h3]; exact walk_top w
      · exact walk_hi a0 (by omega) (by omega) w

/-! ### THE ROW's STEP: WRITTEN OUT: LEAVE IT -/
set_option maxRecDepth 100000 in
theorem lifted (os : Os) (started : os.Started) (H : Type) (enc : TypeId × Value → H) :
    ReturnsInHanded {} Trym.checked os 4 .any (Rows.fnKeepableSuccessorSpec.pre6 enc Trym.prog Trym.f4 Rows.fnKeepableSuccessorRow.domain false) (Rows.fnKeepableSuccessorSpec.post enc Trym.prog Trym.f4 false true false false) := by
  refine returnsInHanded_of_change (C := Trym.checked) own started (by kernel_rfl) Trym.func4
    (ChangeSpec.witness6 (enc := enc) (C := Trym.checked) false ⟨#[], #[.int .u32 0], []⟩ 8 (by kernel_rfl) (by kernel_rfl) (by kernel_rfl) (by kernel_rfl)) ?_
  intro W base args ds gs before hval0 hW hcnd _
  have hval : ∀ (j : Nat) t v, Trym.f4.params[j]? = some t → args[j]? = some v → Value.okWide Trym.prog W .any base t v := hval0
  have hW' := hW
  obtain ⟨p, q, hA0, hV, rfl, hfz, hnd⟩ := hW
  have hA : DataW.TrodAll enc Trym.prog W 0 (fun _ => true) true Trym.f4.params.toList args.toList ds p := hA0
  rw [Trym.params4] at hA hval
  obtain ⟨v0, vs0, d0, ds0, p0, q0, hargs, rfl, rfl, h0, r0⟩ := trodAll_cons hA
  obtain ⟨rfl, rfl, rfl⟩ := trodAll_nil r0
  obtain rfl : args = #[v0] := by cases args; simp_all
  obtain ⟨rfl, rfl⟩ := trodVars_none hV
  obtain ⟨a0, rfl, rfl, rfl, w0⟩ := open_int Trym.underlying22 (hval 0 22 v0 rfl rfl) h0
  clear hA0 hval0
  simp only [List.append_nil] at hW'
  refine (walk a0 w0 W).mono fun e W' ⟨he, hg⟩ => ?_
  subst he
  exact ⟨_, rfl, post_of_same (pa := []) (pv := []) hW' (fun _ _ _ => (trodAll_cons_mk (shut_bool Trym.underlying4 _) trodAll_mk0)) (fun sp _ => (trodAll_cons_mk (shut_int Trym.underlying22 w0) trodAll_mk0)) (fun _ _ => rfl) rfl
    (hg.frame _) hg.2.1 (ok_one (by kernel_rfl) rfl (okWide_bool_mk Trym.underlying4 _))⟩

theorem over : Rows.fnKeepableSuccessorRow.holds Trym.pinned (OpenSpec.ofChange Rows.fnKeepableSuccessorSpec) :=
  OpenClaim.holds_of_wide 4 Trym.f4 rfl rfl rfl rfl rfl rfl rfl ⟨rfl, rfl, rfl, rfl, rfl⟩ rfl rfl rfl rfl rfl (by kernel_rfl) Trym.func4 (by kernel_rfl)
    (of_decide_eq_true (by kernel_rfl)) (by unfold Func.isWrapper; first | (rw [if_pos (by decide +kernel)]; kernel_rfl) | (rw [if_neg (by decide +kernel)]; exact ⟨rfl, rfl⟩))
    (fun os started H enc _ => lifted os started H enc)

/-- ████ THE STATEMENT ████ -/
theorem proved : Rows.FnKeepableSuccessorSaid :=
  over
end Go.Proofs.Qxb6609102aMods.fnKeepableSuccessor

namespace Go.Proofs.Qxb6609102aMods
/-- The statement, at the seat's own namespace. -/
theorem fnKeepableSuccessor_holds : Rows.FnKeepableSuccessorSaid := fnKeepableSuccessor.proved
end Go.Proofs.Qxb6609102aMods

/-
  THE PROOF OF 'Rows.FnChangedSinceSeesEveryStepSaid'. The row's step is the kit's shell, written by program; the walk is own work.
-/
import Derived.Test.Qxb6615501aModsRows
import Derived.WalkKit
import Derived.ProofKit
import Derived.OpenShut
import Derived.ShutString
import Derived.Test.Qxb6615501aModsChg
namespace Go.Proofs.Qxb6615501aMods.fnChangedSinceSeesEveryStep
open Go.ChangeShapes Go.WideShapes Go.ChangeAt Go.RowKit
open Go.ChangeMaps (open_string shut_string)
set_option linter.unusedVariables false      -- a walk need not use every 'w<i>' (that an integer argument fits its kind)

theorem own : ownKnob Trym.prog.godebug = none := by kernel_rfl

/-! ### STEP 1: THE WALK: the Go text returns true. 'Grown w w'': the world has at most new blocks (Derived/RowKit3.lean). Part the cases AHEAD of 'go_enter' where a test parts the walk; take each callee by a contract of your own. -/
/-! ### THE PLAIN LAW: no Go in sight -/
theorem wrap_u64 (n : Int) : IntKind.u64.wrap n = n % 18446744073709551616 := by simp [IntKind.wrap, IntKind.bits, IntKind.signed]

theorem ino_bumped (a b : Int) (h0 : 0 ≤ a) (h1 : a < 18446744073709551616) : Chg.chg a b (IntKind.u64.wrap (a + 1)) b = true := by
  refine decide_eq_true (Or.inr fun h => ?_)
  have := h.1
  rw [wrap_u64] at this
  omega

theorem ch_bumped (a b : Int) (h0 : -9223372036854775808 ≤ b) (h1 : b < 9223372036854775808) : Chg.chg a b a (wrap64 (b + 1)) = true := by
  refine decide_eq_true (Or.inr fun h => ?_)
  have := h.2
  unfold wrap64 at this
  omega

theorem chg_self (a b : Int) (r s : Bool) (hr : (a == 0) = r) (hs : (b == 0) = s) : Chg.chg a b a b = (r && s) := by
  subst hr; subst hs
  rw [Bool.eq_iff_iff]
  simp [Chg.chg]

theorem triangle (a b c d e f : Int) (h : Chg.chg a b e f = true) : Chg.chg a b c d = true ∨ Chg.chg c d e f = true := by
  simp only [Chg.chg, decide_eq_true_eq] at h ⊢
  omega

/-! ### THE WALK -/
set_option maxHeartbeats 4000000 in
theorem walk_of (a0 a1 a2 a3 a4 a5 : Int) (ab bc ac r s : Bool) (e1 : Chg.chg a0 a1 a2 a3 = ab) (e2 : Chg.chg a2 a3 a4 a5 = bc) (e3 : Chg.chg a0 a1 a4 a5 = ac) (ht : (!ac || ab || bc) = true)
    (hr : (a0 == 0) = r) (hs : (a1 == 0) = s)
    (e4 : Chg.chg a0 a1 (IntKind.u64.wrap (a0 + 1)) a1 = true) (e5 : Chg.chg a0 a1 a0 (wrap64 (a1 + 1)) = true) (e6 : Chg.chg a0 a1 a0 a1 = (r && s)) (w : World) :
    Calls Trym.prog 4 #[.int .u64 a0, .int .i64 a1, .int .u64 a2, .int .i64 a3, .int .u64 a4, .int .i64 a5] w fun e w' => e = .returned (.bool true) ∧ Grown w w' := by
  cases ac <;> cases ab <;> cases bc <;> first | (exact absurd ht (by decide)) | skip
  all_goals
    clear ht
    cases r <;> cases s <;> simp only [Bool.and_true, Bool.and_false] at e6
  all_goals
    go_enter Trym.func4, Trym.ntmps4
    go_wp2_with fail
    refine (Chg.zzchanged a0 a1 a2 a3 _).mono ?_
    rintro e x1 ⟨rfl, g1⟩
    go_wp2_with fail
    refine (Chg.zzchanged a2 a3 a4 a5 _).mono ?_
    rintro e x2 ⟨rfl, g2⟩
    go_wp2_with fail
    refine (Chg.zzchanged a0 a1 a4 a5 _).mono ?_
    rintro e x3 ⟨rfl, g3⟩
    go_wp2_with fail
    refine (Chg.zzchanged a0 a1 _ a1 _).mono ?_
    rintro e x4 ⟨rfl, g4⟩
    go_wp2_with fail
    refine (Chg.zzchanged a0 a1 a0 _ _).mono ?_
    rintro e x5 ⟨rfl, g5⟩
    go_wp2_with fail
    refine (Chg.zzchanged a0 a1 a0 a1 _).mono ?_
    rintro e x6 ⟨rfl, g6⟩
    go_wp2_with fail
    go_ret
    exact ⟨rfl, Chg.trans (Chg.trans (Chg.trans (Chg.trans (Chg.trans g1 g2) g3) g4) g5) g6⟩

theorem walk (a0 : Int) (a1 : Int) (a2 : Int) (a3 : Int) (a4 : Int) (a5 : Int) (w0 : (Lit.int .u64 a0).wf = true) (w1 : (Lit.int .i64 a1).wf = true) (w2 : (Lit.int .u64 a2).wf = true) (w3 : (Lit.int .i64 a3).wf = true) (w4 : (Lit.int .u64 a4).wf = true) (w5 : (Lit.int .i64 a5).wf = true) (w : World) :
    Calls Trym.prog 4 #[.int .u64 a0, .int .i64 a1, .int .u64 a2, .int .i64 a3, .int .u64 a4, .int .i64 a5] w fun e w' => e = .returned (.bool true) ∧ Grown w w' := by
  have b0 : 0 ≤ a0 ∧ a0 < 18446744073709551616 := by
    simp [Lit.wf, IntKind.min, IntKind.max, IntKind.bits, IntKind.signed] at w0
    omega
  have b1 : -9223372036854775808 ≤ a1 ∧ a1 < 9223372036854775808 := by
    simp [Lit.wf, IntKind.min, IntKind.max, IntKind.bits, IntKind.signed] at w1
    omega
  refine walk_of a0 a1 a2 a3 a4 a5 _ _ _ _ _ rfl rfl rfl ?_ rfl rfl (ino_bumped a0 a1 b0.1 b0.2) (ch_bumped a0 a1 b1.1 b1.2) (chg_self a0 a1 _ _ rfl rfl) w
  cases h : Chg.chg a0 a1 a4 a5 with
  | false => rfl
  | true =>
    rcases triangle a0 a1 a2 a3 a4 a5 h with h' | h'
    · rw [h']; rfl
    · rw [h']; simp

/-! ### THE ROW's STEP: WRITTEN OUT: LEAVE IT -/
set_option maxRecDepth 100000 in
theorem lifted (os : Os) (started : os.Started) (H : Type) (enc : TypeId × Value → H) :
    ReturnsInHanded {} Trym.checked os 4 .any (Rows.fnChangedSinceSeesEveryStepSpec.pre6 enc Trym.prog Trym.f4 Rows.fnChangedSinceSeesEveryStepRow.domain false) (Rows.fnChangedSinceSeesEveryStepSpec.post enc Trym.prog Trym.f4 false true false false) := by
  refine returnsInHanded_of_change (C := Trym.checked) own started (by kernel_rfl) Trym.func4
    (ChangeSpec.witness6 (enc := enc) (C := Trym.checked) false ⟨#[], #[.int .u64 0, .int .i64 0, .int .u64 0, .int .i64 0, .int .u64 0, .int .i64 0], []⟩ 8 (by kernel_rfl) (by kernel_rfl) (by kernel_rfl) (by kernel_rfl)) ?_
  intro W base args ds gs before hval0 hW hcnd _
  have hval : ∀ (j : Nat) t v, Trym.f4.params[j]? = some t → args[j]? = some v → Value.okWide Trym.prog W .any base t v := hval0
  have hW' := hW
  obtain ⟨p, q, hA0, hV, rfl, hfz, hnd⟩ := hW
  have hA : DataW.TrodAll enc Trym.prog W 0 (fun _ => true) true Trym.f4.params.toList args.toList ds p := hA0
  rw [Trym.params4] at hA hval
  obtain ⟨v0, vs0, d0, ds0, p0, q0, hargs, rfl, rfl, h0, r0⟩ := trodAll_cons hA
  obtain ⟨v1, vs1, d1, ds1, p1, q1, rfl, rfl, rfl, h1, r1⟩ := trodAll_cons r0
  obtain ⟨v2, vs2, d2, ds2, p2, q2, rfl, rfl, rfl, h2, r2⟩ := trodAll_cons r1
  obtain ⟨v3, vs3, d3, ds3, p3, q3, rfl, rfl, rfl, h3, r3⟩ := trodAll_cons r2
  obtain ⟨v4, vs4, d4, ds4, p4, q4, rfl, rfl, rfl, h4, r4⟩ := trodAll_cons r3
  obtain ⟨v5, vs5, d5, ds5, p5, q5, rfl, rfl, rfl, h5, r5⟩ := trodAll_cons r4
  obtain ⟨rfl, rfl, rfl⟩ := trodAll_nil r5
  obtain rfl : args = #[v0, v1, v2, v3, v4, v5] := by cases args; simp_all
  obtain ⟨rfl, rfl⟩ := trodVars_none hV
  obtain ⟨a0, rfl, rfl, rfl, w0⟩ := open_int Trym.underlying22 (hval 0 22 v0 rfl rfl) h0
  obtain ⟨a1, rfl, rfl, rfl, w1⟩ := open_int Trym.underlying2 (hval 1 2 v1 rfl rfl) h1
  obtain ⟨a2, rfl, rfl, rfl, w2⟩ := open_int Trym.underlying22 (hval 2 22 v2 rfl rfl) h2
  obtain ⟨a3, rfl, rfl, rfl, w3⟩ := open_int Trym.underlying2 (hval 3 2 v3 rfl rfl) h3
  obtain ⟨a4, rfl, rfl, rfl, w4⟩ := open_int Trym.underlying22 (hval 4 22 v4 rfl rfl) h4
  obtain ⟨a5, rfl, rfl, rfl, w5⟩ := open_int Trym.underlying2 (hval 5 2 v5 rfl rfl) h5
  clear hA0 hval0
  simp only [List.append_nil] at hW'
  refine (walk a0 a1 a2 a3 a4 a5 w0 w1 w2 w3 w4 w5 W).mono fun e W' ⟨he, hg⟩ => ?_
  subst he
  exact ⟨_, rfl, post_of_same (pa := []) (pv := []) hW' (fun _ _ _ => (trodAll_cons_mk (shut_bool Trym.underlying4 _) trodAll_mk0)) (fun sp _ => (trodAll_cons_mk (shut_int Trym.underlying22 w0) (trodAll_cons_mk (shut_int Trym.underlying2 w1) (trodAll_cons_mk (shut_int Trym.underlying22 w2) (trodAll_cons_mk (shut_int Trym.underlying2 w3) (trodAll_cons_mk (shut_int Trym.underlying22 w4) (trodAll_cons_mk (shut_int Trym.underlying2 w5) trodAll_mk0))))))) (fun _ _ => rfl) rfl
    (hg.frame _) hg.2.1 (ok_one (by kernel_rfl) rfl (okWide_bool_mk Trym.underlying4 _))⟩

theorem over : Rows.fnChangedSinceSeesEveryStepRow.holds Trym.pinned (OpenSpec.ofChange Rows.fnChangedSinceSeesEveryStepSpec) :=
  OpenClaim.holds_of_wide 4 Trym.f4 rfl rfl rfl rfl rfl rfl rfl ⟨rfl, rfl, rfl, rfl, rfl⟩ rfl rfl rfl rfl rfl (by kernel_rfl) Trym.func4 (by kernel_rfl)
    (of_decide_eq_true (by kernel_rfl)) (by unfold Func.isWrapper; first | (rw [if_pos (by decide +kernel)]; kernel_rfl) | (rw [if_neg (by decide +kernel)]; exact ⟨rfl, rfl⟩))
    (fun os started H enc _ => lifted os started H enc)

/-- ████ THE STATEMENT ████ -/
theorem proved : Rows.FnChangedSinceSeesEveryStepSaid :=
  over
end Go.Proofs.Qxb6615501aMods.fnChangedSinceSeesEveryStep

namespace Go.Proofs.Qxb6615501aMods
/-- The statement, at the seat's own namespace. -/
theorem fnChangedSinceSeesEveryStep_holds : Rows.FnChangedSinceSeesEveryStepSaid := fnChangedSinceSeesEveryStep.proved
end Go.Proofs.Qxb6615501aMods

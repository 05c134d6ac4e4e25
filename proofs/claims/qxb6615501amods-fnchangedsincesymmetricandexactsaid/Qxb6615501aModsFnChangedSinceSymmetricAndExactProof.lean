/-
  THE PROOF OF 'Rows.FnChangedSinceSymmetricAndExactSaid'. The row's step is the kit's shell, written by program; the walk is own work.
-/
import Derived.Test.Qxb6615501aModsRows
import Derived.WalkKit
import Derived.ProofKit
import Derived.OpenShut
import Derived.ShutString
import Derived.Test.Qxb6615501aModsChg
namespace Go.Proofs.Qxb6615501aMods.fnChangedSinceSymmetricAndExact
open Go.ChangeShapes Go.WideShapes Go.ChangeAt Go.RowKit
open Go.ChangeMaps (open_string shut_string)
set_option linter.unusedVariables false      -- a walk need not use every 'w<i>' (that an integer argument fits its kind)

theorem own : ownKnob Trym.prog.godebug = none := by kernel_rfl

/-! ### STEP 1: THE WALK: the Go text returns true. 'Grown w w'': the world has at most new blocks (Derived/RowKit3.lean). Part the cases AHEAD of 'go_enter' where a test parts the walk; take each callee by a contract of your own. -/
/-! ### THE PLAIN LAW: no Go in sight -/
theorem chg_fwd (a b c d : Int) (p q r s : Bool) (hp : (a == c) = p) (hq : (b == d) = q) (hr : (a == 0) = r) (hs : (b == 0) = s) :
    Chg.chg a b c d = ((r && s) || !(p && q)) := by
  subst hp; subst hq; subst hr; subst hs
  rw [Bool.eq_iff_iff]
  simp [Chg.chg]

theorem chg_back (a b c d : Int) (p q r s : Bool) (hp : (a == c) = p) (hq : (b == d) = q) (hr : (a == 0) = r) (hs : (b == 0) = s) :
    Chg.chg c d a b = ((r && s) || !(p && q)) := by
  subst hp; subst hq; subst hr; subst hs
  rw [Bool.eq_iff_iff]
  simp [Chg.chg]
  omega

/-! ### THE WALK -/
theorem walk (a0 : Int) (a1 : Int) (a2 : Int) (a3 : Int) (w0 : (Lit.int .u64 a0).wf = true) (w1 : (Lit.int .i64 a1).wf = true) (w2 : (Lit.int .u64 a2).wf = true) (w3 : (Lit.int .i64 a3).wf = true) (w : World) :
    Calls Trym.prog 3 #[.int .u64 a0, .int .i64 a1, .int .u64 a2, .int .i64 a3] w fun e w' => e = .returned (.bool true) ∧ Grown w w' := by
  clear w0 w1 w2 w3
  obtain ⟨p, hp⟩ : ∃ p, (a0 == a2) = p := ⟨_, rfl⟩
  obtain ⟨q, hq⟩ : ∃ q, (a1 == a3) = q := ⟨_, rfl⟩
  obtain ⟨r, hr⟩ : ∃ r, (a0 == 0) = r := ⟨_, rfl⟩
  obtain ⟨s, hs⟩ : ∃ s, (a1 == 0) = s := ⟨_, rfl⟩
  have h1 := chg_fwd a0 a1 a2 a3 p q r s hp hq hr hs
  have h2 := chg_back a0 a1 a2 a3 p q r s hp hq hr hs
  cases p <;> cases q <;> cases r <;> cases s <;> simp only [Bool.and_true, Bool.and_false, Bool.or_true, Bool.or_false, Bool.not_true, Bool.not_false] at h1 h2
  all_goals
    go_enter Trym.func3, Trym.ntmps3
    go_wp2_with fail
    refine (Chg.zzchanged a0 a1 a2 a3 _).mono ?_
    rintro e x1 ⟨rfl, g1⟩
    go_wp2_with fail
    refine (Chg.zzchanged a2 a3 a0 a1 _).mono ?_
    rintro e x2 ⟨rfl, g2⟩
    go_wp2_with fail
    go_ret
    exact ⟨rfl, Chg.trans g1 g2⟩

/-! ### THE ROW's STEP: WRITTEN OUT: LEAVE IT -/
set_option maxRecDepth 100000 in
theorem lifted (os : Os) (started : os.Started) (H : Type) (enc : TypeId × Value → H) :
    ReturnsInHanded {} Trym.checked os 3 .any (Rows.fnChangedSinceSymmetricAndExactSpec.pre6 enc Trym.prog Trym.f3 Rows.fnChangedSinceSymmetricAndExactRow.domain false) (Rows.fnChangedSinceSymmetricAndExactSpec.post enc Trym.prog Trym.f3 false true false false) := by
  refine returnsInHanded_of_change (C := Trym.checked) own started (by kernel_rfl) Trym.func3
    (ChangeSpec.witness6 (enc := enc) (C := Trym.checked) false ⟨#[], #[.int .u64 0, .int .i64 0, .int .u64 0, .int .i64 0], []⟩ 8 (by kernel_rfl) (by kernel_rfl) (by kernel_rfl) (by kernel_rfl)) ?_
  intro W base args ds gs before hval0 hW hcnd _
  have hval : ∀ (j : Nat) t v, Trym.f3.params[j]? = some t → args[j]? = some v → Value.okWide Trym.prog W .any base t v := hval0
  have hW' := hW
  obtain ⟨p, q, hA0, hV, rfl, hfz, hnd⟩ := hW
  have hA : DataW.TrodAll enc Trym.prog W 0 (fun _ => true) true Trym.f3.params.toList args.toList ds p := hA0
  rw [Trym.params3] at hA hval
  obtain ⟨v0, vs0, d0, ds0, p0, q0, hargs, rfl, rfl, h0, r0⟩ := trodAll_cons hA
  obtain ⟨v1, vs1, d1, ds1, p1, q1, rfl, rfl, rfl, h1, r1⟩ := trodAll_cons r0
  obtain ⟨v2, vs2, d2, ds2, p2, q2, rfl, rfl, rfl, h2, r2⟩ := trodAll_cons r1
  obtain ⟨v3, vs3, d3, ds3, p3, q3, rfl, rfl, rfl, h3, r3⟩ := trodAll_cons r2
  obtain ⟨rfl, rfl, rfl⟩ := trodAll_nil r3
  obtain rfl : args = #[v0, v1, v2, v3] := by cases args; simp_all
  obtain ⟨rfl, rfl⟩ := trodVars_none hV
  obtain ⟨a0, rfl, rfl, rfl, w0⟩ := open_int Trym.underlying22 (hval 0 22 v0 rfl rfl) h0
  obtain ⟨a1, rfl, rfl, rfl, w1⟩ := open_int Trym.underlying2 (hval 1 2 v1 rfl rfl) h1
  obtain ⟨a2, rfl, rfl, rfl, w2⟩ := open_int Trym.underlying22 (hval 2 22 v2 rfl rfl) h2
  obtain ⟨a3, rfl, rfl, rfl, w3⟩ := open_int Trym.underlying2 (hval 3 2 v3 rfl rfl) h3
  clear hA0 hval0
  simp only [List.append_nil] at hW'
  refine (walk a0 a1 a2 a3 w0 w1 w2 w3 W).mono fun e W' ⟨he, hg⟩ => ?_
  subst he
  exact ⟨_, rfl, post_of_same (pa := []) (pv := []) hW' (fun _ _ _ => (trodAll_cons_mk (shut_bool Trym.underlying4 _) trodAll_mk0)) (fun sp _ => (trodAll_cons_mk (shut_int Trym.underlying22 w0) (trodAll_cons_mk (shut_int Trym.underlying2 w1) (trodAll_cons_mk (shut_int Trym.underlying22 w2) (trodAll_cons_mk (shut_int Trym.underlying2 w3) trodAll_mk0))))) (fun _ _ => rfl) rfl
    (hg.frame _) hg.2.1 (ok_one (by kernel_rfl) rfl (okWide_bool_mk Trym.underlying4 _))⟩

theorem over : Rows.fnChangedSinceSymmetricAndExactRow.holds Trym.pinned (OpenSpec.ofChange Rows.fnChangedSinceSymmetricAndExactSpec) :=
  OpenClaim.holds_of_wide 3 Trym.f3 rfl rfl rfl rfl rfl rfl rfl ⟨rfl, rfl, rfl, rfl, rfl⟩ rfl rfl rfl rfl rfl (by kernel_rfl) Trym.func3 (by kernel_rfl)
    (of_decide_eq_true (by kernel_rfl)) (by unfold Func.isWrapper; first | (rw [if_pos (by decide +kernel)]; kernel_rfl) | (rw [if_neg (by decide +kernel)]; exact ⟨rfl, rfl⟩))
    (fun os started H enc _ => lifted os started H enc)

/-- ████ THE STATEMENT ████ -/
theorem proved : Rows.FnChangedSinceSymmetricAndExactSaid :=
  over
end Go.Proofs.Qxb6615501aMods.fnChangedSinceSymmetricAndExact

namespace Go.Proofs.Qxb6615501aMods
/-- The statement, at the seat's own namespace. -/
theorem fnChangedSinceSymmetricAndExact_holds : Rows.FnChangedSinceSymmetricAndExactSaid := fnChangedSinceSymmetricAndExact.proved
end Go.Proofs.Qxb6615501aMods

/-
  No cell of these rows narrows 'for every input' (looked for: loops, veiled, ifaces, maps, wideKeys, modest, calm, conditions, laid).
  DERIVED. THE GIVEN ROWS OF THIS SEAT. 2 by the template 'for every input the law returns true; each argument reads behind the call as it read before'; 0 by the template 'total and deterministic' (their statements: Qxb6615501aModsTotals.lean).
  GIVEN WITH THE SEED: the statements are not yours to turn. If you find one false, say at which input.
  Laid BY PROGRAM, IN A SANDBOX (cutbox-rows.mjs): the forced cells as the released guide's own fill.sh prints them over the translation 36bf8cd9fd96deab… (all of the seat's roots in one cut). By AI agents, Wed Nov 11 2026. No macro, syntax, notation, axiom, sorry.
-/
import Derived.Test.Qxb6615501aModsChecked
import GoSem.Claim
import GoSem.ClaimJoined
import GoSem.ClaimMapViews
import Derived.JoinedTies
import Derived.KernelRfl
namespace Go.Proofs.Qxb6615501aMods
/- THE CELL 'sum', in the pinned program and in every row, IS THE sha256 OF THE DUMP (.gsa) THAT Qxb6615501aModsProg.lean LOADS. Nothing in Lean hashes anything: it is a label: what it is worth is what the hold of that sum in a sandbox is worth. -/
noncomputable def Trym.pinned : Pinned := { name := "qxb6615501amods", sum := "36bf8cd9fd96deab78f8c3ffbebb8e806b5b6bd6367d530c35ab1622bbdebd94", checked := Trym.checked }
namespace Rows
def none {H : Type} : Left H := { results := [], args := [] }

/-- 'zzlaws_internal_store_b1.FnChangedSinceSymmetricAndExact': WHATEVER THE INPUT: true; the input reads as it did. -/
def fnChangedSinceSymmetricAndExactSpec : ChangeSpec := { name := "fnChangedSinceSymmetricAndExact", fn := fun _ => fun
  | [d1, d2, d3, d4] => { results := [.lit (.bool true)], args := [d1, d2, d3, d4] }
  | _ => none }
def fnChangedSinceSymmetricAndExactRow : OpenClaim := { program := "qxb6615501amods", sum := "36bf8cd9fd96deab78f8c3ffbebb8e806b5b6bd6367d530c35ab1622bbdebd94", func := "example.com/tallyrun/tallyrun/zzlaws_internal_store_b1.FnChangedSinceSymmetricAndExact", spec := "fnChangedSinceSymmetricAndExact", make := .lifted ["publicsums"], apart := false }
def FnChangedSinceSymmetricAndExactSaid : Prop := fnChangedSinceSymmetricAndExactRow.holds Trym.pinned (OpenSpec.ofChange fnChangedSinceSymmetricAndExactSpec)

/-- ITS FALSE NEIGHBOUR: 'it returns false'. Refute it at one input. -/
def fnChangedSinceSymmetricAndExactWrong : ChangeSpec := { name := "fnChangedSinceSymmetricAndExact", fn := fun _ => fun
  | [d1, d2, d3, d4] => { results := [.lit (.bool false)], args := [d1, d2, d3, d4] }
  | _ => none }
def FnChangedSinceSymmetricAndExactWrongFalsely : Prop := fnChangedSinceSymmetricAndExactRow.holds Trym.pinned (OpenSpec.ofChange fnChangedSinceSymmetricAndExactWrong)

/-- 'zzlaws_internal_store_b1.FnChangedSinceSeesEveryStep': WHATEVER THE INPUT: true; the input reads as it did. -/
def fnChangedSinceSeesEveryStepSpec : ChangeSpec := { name := "fnChangedSinceSeesEveryStep", fn := fun _ => fun
  | [d1, d2, d3, d4, d5, d6] => { results := [.lit (.bool true)], args := [d1, d2, d3, d4, d5, d6] }
  | _ => none }
def fnChangedSinceSeesEveryStepRow : OpenClaim := { program := "qxb6615501amods", sum := "36bf8cd9fd96deab78f8c3ffbebb8e806b5b6bd6367d530c35ab1622bbdebd94", func := "example.com/tallyrun/tallyrun/zzlaws_internal_store_b1.FnChangedSinceSeesEveryStep", spec := "fnChangedSinceSeesEveryStep", make := .lifted ["publicsums"], apart := false }
def FnChangedSinceSeesEveryStepSaid : Prop := fnChangedSinceSeesEveryStepRow.holds Trym.pinned (OpenSpec.ofChange fnChangedSinceSeesEveryStepSpec)

/-- ITS FALSE NEIGHBOUR: 'it returns false'. Refute it at one input. -/
def fnChangedSinceSeesEveryStepWrong : ChangeSpec := { name := "fnChangedSinceSeesEveryStep", fn := fun _ => fun
  | [d1, d2, d3, d4, d5, d6] => { results := [.lit (.bool false)], args := [d1, d2, d3, d4, d5, d6] }
  | _ => none }
def FnChangedSinceSeesEveryStepWrongFalsely : Prop := fnChangedSinceSeesEveryStepRow.holds Trym.pinned (OpenSpec.ofChange fnChangedSinceSeesEveryStepWrong)

end Rows
end Go.Proofs.Qxb6615501aMods

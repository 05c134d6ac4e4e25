/-
  No cell of these rows narrows 'for every input' (looked for: loops, veiled, ifaces, maps, wideKeys, modest, calm, conditions, laid).
  DERIVED. THE GIVEN ROWS OF THIS SEAT. 2 by the template 'for every input the law returns true; each argument reads behind the call as it read before'; 0 by the template 'total and deterministic' (their statements: Qxb6615041aModsTotals.lean).
  GIVEN WITH THE SEED: the statements are not yours to turn. If you find one false, say at which input.
  Laid BY PROGRAM, IN A SANDBOX (cutbox-rows.mjs): the forced cells as the released guide's own fill.sh prints them over the translation c48cd98d9d7e456b… (all of the seat's roots in one cut). By AI agents, Wed Nov 11 2026. No macro, syntax, notation, axiom, sorry.
-/
import Derived.Test.Qxb6615041aModsChecked
import GoSem.Claim
import GoSem.ClaimJoined
import GoSem.ClaimMapViews
import Derived.JoinedTies
import Derived.KernelRfl
namespace Go.Proofs.Qxb6615041aMods
/- THE CELL 'sum', in the pinned program and in every row, IS THE sha256 OF THE DUMP (.gsa) THAT Qxb6615041aModsProg.lean LOADS. Nothing in Lean hashes anything: it is a label: what it is worth is what the hold of that sum in a sandbox is worth. -/
noncomputable def Trym.pinned : Pinned := { name := "qxb6615041amods", sum := "c48cd98d9d7e456bab04517d27be69aeb2c9209867b31c3c334eca713f73ecc3", checked := Trym.checked }
namespace Rows
def none {H : Type} : Left H := { results := [], args := [] }

/-- 'zzlaws_internal_registry_b1.FnPostponesKeepsEarliestDeadline': WHATEVER THE INPUT: true; the input reads as it did. -/
def fnPostponesKeepsEarliestDeadlineSpec : ChangeSpec := { name := "fnPostponesKeepsEarliestDeadline", fn := fun _ => fun
  | [d] => { results := [.lit (.bool true)], args := [d] }
  | _ => none }
def fnPostponesKeepsEarliestDeadlineRow : OpenClaim := { program := "qxb6615041amods", sum := "c48cd98d9d7e456bab04517d27be69aeb2c9209867b31c3c334eca713f73ecc3", func := "example.com/mayfly/mayfly/zzlaws_internal_registry_b1.FnPostponesKeepsEarliestDeadline", spec := "fnPostponesKeepsEarliestDeadline", make := .lifted ["publicsums"], apart := false }
def FnPostponesKeepsEarliestDeadlineSaid : Prop := fnPostponesKeepsEarliestDeadlineRow.holds Trym.pinned (OpenSpec.ofChange fnPostponesKeepsEarliestDeadlineSpec)

/-- ITS FALSE NEIGHBOUR: 'it returns false'. Refute it at one input. -/
def fnPostponesKeepsEarliestDeadlineWrong : ChangeSpec := { name := "fnPostponesKeepsEarliestDeadline", fn := fun _ => fun
  | [d] => { results := [.lit (.bool false)], args := [d] }
  | _ => none }
def FnPostponesKeepsEarliestDeadlineWrongFalsely : Prop := fnPostponesKeepsEarliestDeadlineRow.holds Trym.pinned (OpenSpec.ofChange fnPostponesKeepsEarliestDeadlineWrong)

/-- 'zzlaws_internal_registry_b1.FnPostponesIsStrictTotalOrder': WHATEVER THE INPUT: true; the input reads as it did. -/
def fnPostponesIsStrictTotalOrderSpec : ChangeSpec := { name := "fnPostponesIsStrictTotalOrder", fn := fun _ => fun
  | [d1, d2, d3] => { results := [.lit (.bool true)], args := [d1, d2, d3] }
  | _ => none }
def fnPostponesIsStrictTotalOrderRow : OpenClaim := { program := "qxb6615041amods", sum := "c48cd98d9d7e456bab04517d27be69aeb2c9209867b31c3c334eca713f73ecc3", func := "example.com/mayfly/mayfly/zzlaws_internal_registry_b1.FnPostponesIsStrictTotalOrder", spec := "fnPostponesIsStrictTotalOrder", make := .lifted ["publicsums"], apart := false }
def FnPostponesIsStrictTotalOrderSaid : Prop := fnPostponesIsStrictTotalOrderRow.holds Trym.pinned (OpenSpec.ofChange fnPostponesIsStrictTotalOrderSpec)

/-- ITS FALSE NEIGHBOUR: 'it returns false'. Refute it at one input. -/
def fnPostponesIsStrictTotalOrderWrong : ChangeSpec := { name := "fnPostponesIsStrictTotalOrder", fn := fun _ => fun
  | [d1, d2, d3] => { results := [.lit (.bool false)], args := [d1, d2, d3] }
  | _ => none }
def FnPostponesIsStrictTotalOrderWrongFalsely : Prop := fnPostponesIsStrictTotalOrderRow.holds Trym.pinned (OpenSpec.ofChange fnPostponesIsStrictTotalOrderWrong)

end Rows
end Go.Proofs.Qxb6615041aMods

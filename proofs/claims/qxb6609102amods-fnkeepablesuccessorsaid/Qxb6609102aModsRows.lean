/-
  No cell of these rows narrows 'for every input' (looked for: loops, veiled, ifaces, maps, wideKeys, modest, calm, conditions, laid).
  DERIVED. THE GIVEN ROWS OF THIS SEAT. 3 by the template 'for every input the law returns true; each argument reads behind the call as it read before'; 0 by the template 'total and deterministic' (their statements: Qxb6609102aModsTotals.lean).
  GIVEN WITH THE SEED: the statements are not yours to turn. If you find one false, say at which input.
  Laid BY PROGRAM, IN A SANDBOX (cutbox-rows.mjs): the forced cells as the released guide's own fill.sh prints them over the translation 86d3c9eb17f6efbf… (all of the seat's roots in one cut). By AI agents, Wed Nov 11 2026. No macro, syntax, notation, axiom, sorry.
-/
import Derived.Test.Qxb6609102aModsChecked
import GoSem.Claim
import GoSem.ClaimJoined
import GoSem.ClaimMapViews
import Derived.JoinedTies
import Derived.KernelRfl
namespace Go.Proofs.Qxb6609102aMods
/- THE CELL 'sum', in the pinned program and in every row, IS THE sha256 OF THE DUMP (.gsa) THAT Qxb6609102aModsProg.lean LOADS. Nothing in Lean hashes anything: it is a label: what it is worth is what the hold of that sum in a sandbox is worth. -/
noncomputable def Trym.pinned : Pinned := { name := "qxb6609102amods", sum := "86d3c9eb17f6efbface1742cdf72a2a256c077e9f5644555284a82a5046fca52", checked := Trym.checked }
namespace Rows
def none {H : Type} : Left H := { results := [], args := [] }

/-- 'zzlaws_resolver_b1.FnKeepableTopBitHalves': WHATEVER THE INPUT: true; the input reads as it did. -/
def fnKeepableTopBitHalvesSpec : ChangeSpec := { name := "fnKeepableTopBitHalves", fn := fun _ => fun
  | [d] => { results := [.lit (.bool true)], args := [d] }
  | _ => none }
def fnKeepableTopBitHalvesRow : OpenClaim := { program := "qxb6609102amods", sum := "86d3c9eb17f6efbface1742cdf72a2a256c077e9f5644555284a82a5046fca52", func := "example.com/cutpoint/cutpoint/zzlaws_resolver_b1.FnKeepableTopBitHalves", spec := "fnKeepableTopBitHalves", make := .lifted ["publicsums"], apart := false }
def FnKeepableTopBitHalvesSaid : Prop := fnKeepableTopBitHalvesRow.holds Trym.pinned (OpenSpec.ofChange fnKeepableTopBitHalvesSpec)

/-- ITS FALSE NEIGHBOUR: 'it returns false'. Refute it at one input. -/
def fnKeepableTopBitHalvesWrong : ChangeSpec := { name := "fnKeepableTopBitHalves", fn := fun _ => fun
  | [d] => { results := [.lit (.bool false)], args := [d] }
  | _ => none }
def FnKeepableTopBitHalvesWrongFalsely : Prop := fnKeepableTopBitHalvesRow.holds Trym.pinned (OpenSpec.ofChange fnKeepableTopBitHalvesWrong)

/-- 'zzlaws_resolver_b1.FnKeepableSuccessor': WHATEVER THE INPUT: true; the input reads as it did. -/
def fnKeepableSuccessorSpec : ChangeSpec := { name := "fnKeepableSuccessor", fn := fun _ => fun
  | [d] => { results := [.lit (.bool true)], args := [d] }
  | _ => none }
def fnKeepableSuccessorRow : OpenClaim := { program := "qxb6609102amods", sum := "86d3c9eb17f6efbface1742cdf72a2a256c077e9f5644555284a82a5046fca52", func := "example.com/cutpoint/cutpoint/zzlaws_resolver_b1.FnKeepableSuccessor", spec := "fnKeepableSuccessor", make := .lifted ["publicsums"], apart := false }
def FnKeepableSuccessorSaid : Prop := fnKeepableSuccessorRow.holds Trym.pinned (OpenSpec.ofChange fnKeepableSuccessorSpec)

/-- ITS FALSE NEIGHBOUR: 'it returns false'. Refute it at one input. -/
def fnKeepableSuccessorWrong : ChangeSpec := { name := "fnKeepableSuccessor", fn := fun _ => fun
  | [d] => { results := [.lit (.bool false)], args := [d] }
  | _ => none }
def FnKeepableSuccessorWrongFalsely : Prop := fnKeepableSuccessorRow.holds Trym.pinned (OpenSpec.ofChange fnKeepableSuccessorWrong)

/-- 'zzlaws_resolver_b1.FnIsDataCountBelow': WHATEVER THE INPUT: true; the input reads as it did. -/
def fnIsDataCountBelowSpec : ChangeSpec := { name := "fnIsDataCountBelow", fn := fun _ => fun
  | [d] => { results := [.lit (.bool true)], args := [d] }
  | _ => none }
def fnIsDataCountBelowRow : OpenClaim := { program := "qxb6609102amods", sum := "86d3c9eb17f6efbface1742cdf72a2a256c077e9f5644555284a82a5046fca52", func := "example.com/cutpoint/cutpoint/zzlaws_resolver_b1.FnIsDataCountBelow", spec := "fnIsDataCountBelow", make := .lifted ["publicsums"], apart := false }
def FnIsDataCountBelowSaid : Prop := fnIsDataCountBelowRow.holds Trym.pinned (OpenSpec.ofChange fnIsDataCountBelowSpec)

/-- ITS FALSE NEIGHBOUR: 'it returns false'. Refute it at one input. -/
def fnIsDataCountBelowWrong : ChangeSpec := { name := "fnIsDataCountBelow", fn := fun _ => fun
  | [d] => { results := [.lit (.bool false)], args := [d] }
  | _ => none }
def FnIsDataCountBelowWrongFalsely : Prop := fnIsDataCountBelowRow.holds Trym.pinned (OpenSpec.ofChange fnIsDataCountBelowWrong)

end Rows
end Go.Proofs.Qxb6609102aMods

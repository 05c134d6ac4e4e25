/-
  No cell of these rows narrows 'for every input' (looked for: loops, veiled, ifaces, maps, wideKeys, modest, calm, conditions, laid).
  DERIVED. THE GIVEN ROWS OF THIS SEAT. 2 by the template 'for every input the law returns true; each argument reads behind the call as it read before'; 0 by the template 'total and deterministic' (their statements: Qxb6615806aModsTotals.lean).
  GIVEN WITH THE SEED: the statements are not yours to turn. If you find one false, say at which input.
  Laid BY PROGRAM, IN A SANDBOX (cutbox-rows.mjs): the forced cells as the released guide's own fill.sh prints them over the translation 6f5478d880a3aca7… (all of the seat's roots in one cut). By AI agents, Wed Nov 11 2026. No macro, syntax, notation, axiom, sorry.
-/
import Derived.Test.Qxb6615806aModsChecked
import GoSem.Claim
import GoSem.ClaimJoined
import GoSem.ClaimMapViews
import Derived.JoinedTies
import Derived.KernelRfl
namespace Go.Proofs.Qxb6615806aMods
/- THE CELL 'sum', in the pinned program and in every row, IS THE sha256 OF THE DUMP (.gsa) THAT Qxb6615806aModsProg.lean LOADS. Nothing in Lean hashes anything: it is a label: what it is worth is what the hold of that sum in a sandbox is worth. -/
noncomputable def Trym.pinned : Pinned := { name := "qxb6615806amods", sum := "6f5478d880a3aca7d3ad7686f712c1b846773b741c9f08b93c321c426b6f9d21", checked := Trym.checked }
namespace Rows
def none {H : Type} : Left H := { results := [], args := [] }

/-- 'zzlaws_ingress_b1.FnIsOwnHoldsForJustTheOneSegmentsPart': WHATEVER THE INPUT: true; the input reads as it did. -/
def fnIsOwnHoldsForJustTheOneSegmentsPartSpec : ChangeSpec := { name := "fnIsOwnHoldsForJustTheOneSegmentsPart", fn := fun _ => fun
  | [d1, d2, d3] => { results := [.lit (.bool true)], args := [d1, d2, d3] }
  | _ => none }
def fnIsOwnHoldsForJustTheOneSegmentsPartRow : OpenClaim := { program := "qxb6615806amods", sum := "6f5478d880a3aca7d3ad7686f712c1b846773b741c9f08b93c321c426b6f9d21", func := "example.com/gatewright/gatewright/zzlaws_ingress_b1.FnIsOwnHoldsForJustTheOneSegmentsPart", spec := "fnIsOwnHoldsForJustTheOneSegmentsPart", make := .lifted ["publicsums"], apart := false }
def FnIsOwnHoldsForJustTheOneSegmentsPartSaid : Prop := fnIsOwnHoldsForJustTheOneSegmentsPartRow.holds Trym.pinned (OpenSpec.ofChange fnIsOwnHoldsForJustTheOneSegmentsPartSpec)

/-- ITS FALSE NEIGHBOUR: 'it returns false'. Refute it at one input. -/
def fnIsOwnHoldsForJustTheOneSegmentsPartWrong : ChangeSpec := { name := "fnIsOwnHoldsForJustTheOneSegmentsPart", fn := fun _ => fun
  | [d1, d2, d3] => { results := [.lit (.bool false)], args := [d1, d2, d3] }
  | _ => none }
def FnIsOwnHoldsForJustTheOneSegmentsPartWrongFalsely : Prop := fnIsOwnHoldsForJustTheOneSegmentsPartRow.holds Trym.pinned (OpenSpec.ofChange fnIsOwnHoldsForJustTheOneSegmentsPartWrong)

/-- 'zzlaws_ingress_b1.FnIsOwnAcceptsOneSegmentPutIntoAnEmptyTemplate': WHATEVER THE INPUT: true; the input reads as it did. -/
def fnIsOwnAcceptsOneSegmentPutIntoAnEmptyTemplateSpec : ChangeSpec := { name := "fnIsOwnAcceptsOneSegmentPutIntoAnEmptyTemplate", fn := fun _ => fun
  | [d1, d2, d3, d4, d5] => { results := [.lit (.bool true)], args := [d1, d2, d3, d4, d5] }
  | _ => none }
def fnIsOwnAcceptsOneSegmentPutIntoAnEmptyTemplateRow : OpenClaim := { program := "qxb6615806amods", sum := "6f5478d880a3aca7d3ad7686f712c1b846773b741c9f08b93c321c426b6f9d21", func := "example.com/gatewright/gatewright/zzlaws_ingress_b1.FnIsOwnAcceptsOneSegmentPutIntoAnEmptyTemplate", spec := "fnIsOwnAcceptsOneSegmentPutIntoAnEmptyTemplate", make := .lifted ["publicsums"], apart := false }
def FnIsOwnAcceptsOneSegmentPutIntoAnEmptyTemplateSaid : Prop := fnIsOwnAcceptsOneSegmentPutIntoAnEmptyTemplateRow.holds Trym.pinned (OpenSpec.ofChange fnIsOwnAcceptsOneSegmentPutIntoAnEmptyTemplateSpec)

/-- ITS FALSE NEIGHBOUR: 'it returns false'. Refute it at one input. -/
def fnIsOwnAcceptsOneSegmentPutIntoAnEmptyTemplateWrong : ChangeSpec := { name := "fnIsOwnAcceptsOneSegmentPutIntoAnEmptyTemplate", fn := fun _ => fun
  | [d1, d2, d3, d4, d5] => { results := [.lit (.bool false)], args := [d1, d2, d3, d4, d5] }
  | _ => none }
def FnIsOwnAcceptsOneSegmentPutIntoAnEmptyTemplateWrongFalsely : Prop := fnIsOwnAcceptsOneSegmentPutIntoAnEmptyTemplateRow.holds Trym.pinned (OpenSpec.ofChange fnIsOwnAcceptsOneSegmentPutIntoAnEmptyTemplateWrong)

end Rows
end Go.Proofs.Qxb6615806aMods

/-
  No cell of these rows narrows 'for every input' (looked for: loops, veiled, ifaces, maps, wideKeys, modest, calm, conditions, laid).
  DERIVED. THE GIVEN ROWS OF THIS SEAT. 4 by the template 'for every input the law returns true; each argument reads behind the call as it read before'; 0 by the template 'total and deterministic' (their statements: Qxb6602235aTotals.lean).
  GIVEN WITH THE SEED: the statements are not yours to turn. If you find one false, say at which input.
  Laid BY PROGRAM, IN A SANDBOX (cutbox-rows.mjs): the forced cells as the released guide's own fill.sh prints them over the translation 165d4c2aa3538027… (all of the seat's roots in one cut). By AI agents, Wed Nov 11 2026. No macro, syntax, notation, axiom, sorry.
-/
import Derived.Test.Qxb6602235aChecked
import GoSem.Claim
import GoSem.ClaimJoined
import GoSem.ClaimMapViews
import Derived.JoinedTies
import Derived.KernelRfl
namespace Go.Proofs.Qxb6602235a
/- THE CELL 'sum', in the pinned program and in every row, IS THE sha256 OF THE DUMP (.gsa) THAT Qxb6602235aProg.lean LOADS. Nothing in Lean hashes anything: it is a label: what it is worth is what the hold of that sum in a sandbox is worth. -/
noncomputable def Try.pinned : Pinned := { name := "qxb6602235a", sum := "165d4c2aa3538027788577895e3d5f04fac0156360b85ee604484c26d2eca478", checked := Try.checked }
namespace Rows
def none {H : Type} : Left H := { results := [], args := [] }

/-- 'zzlaws_manifest_b1.FnRestartsFailureNeverTakesARestartAway': WHATEVER THE INPUT: true; the input reads as it did. -/
def fnRestartsFailureNeverTakesARestartAwaySpec : ChangeSpec := { name := "fnRestartsFailureNeverTakesARestartAway", fn := fun _ => fun
  | [d] => { results := [.lit (.bool true)], args := [d] }
  | _ => none }
def fnRestartsFailureNeverTakesARestartAwayRow : OpenClaim := { program := "qxb6602235a", sum := "165d4c2aa3538027788577895e3d5f04fac0156360b85ee604484c26d2eca478", func := "example.com/lifesign/lifesign/zzlaws_manifest_b1.FnRestartsFailureNeverTakesARestartAway", spec := "fnRestartsFailureNeverTakesARestartAway", apart := false }
def FnRestartsFailureNeverTakesARestartAwaySaid : Prop := fnRestartsFailureNeverTakesARestartAwayRow.holds Try.pinned (OpenSpec.ofChange fnRestartsFailureNeverTakesARestartAwaySpec)

/-- ITS FALSE NEIGHBOUR: 'it returns false'. Refute it at one input. -/
def fnRestartsFailureNeverTakesARestartAwayWrong : ChangeSpec := { name := "fnRestartsFailureNeverTakesARestartAway", fn := fun _ => fun
  | [d] => { results := [.lit (.bool false)], args := [d] }
  | _ => none }
def FnRestartsFailureNeverTakesARestartAwayWrongFalsely : Prop := fnRestartsFailureNeverTakesARestartAwayRow.holds Try.pinned (OpenSpec.ofChange fnRestartsFailureNeverTakesARestartAwayWrong)

/-- 'zzlaws_manifest_b1.FnMechanismsCaseTable': WHATEVER THE INPUT: true; the input reads as it did. -/
def fnMechanismsCaseTableSpec : ChangeSpec := { name := "fnMechanismsCaseTable", fn := fun _ => fun
  | [d1, d2, d3, d4, d5, d6, d7, d8, d9] => { results := [.lit (.bool true)], args := [d1, d2, d3, d4, d5, d6, d7, d8, d9] }
  | _ => none }
def fnMechanismsCaseTableRow : OpenClaim := { program := "qxb6602235a", sum := "165d4c2aa3538027788577895e3d5f04fac0156360b85ee604484c26d2eca478", func := "example.com/lifesign/lifesign/zzlaws_manifest_b1.FnMechanismsCaseTable", spec := "fnMechanismsCaseTable", apart := false }
def FnMechanismsCaseTableSaid : Prop := fnMechanismsCaseTableRow.holds Try.pinned (OpenSpec.ofChange fnMechanismsCaseTableSpec)

/-- ITS FALSE NEIGHBOUR: 'it returns false'. Refute it at one input. -/
def fnMechanismsCaseTableWrong : ChangeSpec := { name := "fnMechanismsCaseTable", fn := fun _ => fun
  | [d1, d2, d3, d4, d5, d6, d7, d8, d9] => { results := [.lit (.bool false)], args := [d1, d2, d3, d4, d5, d6, d7, d8, d9] }
  | _ => none }
def FnMechanismsCaseTableWrongFalsely : Prop := fnMechanismsCaseTableRow.holds Try.pinned (OpenSpec.ofChange fnMechanismsCaseTableWrong)

/-- 'zzlaws_manifest_b1.FnMechanismsNamesTellWhichAreSet': WHATEVER THE INPUT: true; the input reads as it did. -/
def fnMechanismsNamesTellWhichAreSetSpec : ChangeSpec := { name := "fnMechanismsNamesTellWhichAreSet", fn := fun _ => fun
  | [d1, d2, d3, d4] => { results := [.lit (.bool true)], args := [d1, d2, d3, d4] }
  | _ => none }
def fnMechanismsNamesTellWhichAreSetRow : OpenClaim := { program := "qxb6602235a", sum := "165d4c2aa3538027788577895e3d5f04fac0156360b85ee604484c26d2eca478", func := "example.com/lifesign/lifesign/zzlaws_manifest_b1.FnMechanismsNamesTellWhichAreSet", spec := "fnMechanismsNamesTellWhichAreSet", apart := false }
def FnMechanismsNamesTellWhichAreSetSaid : Prop := fnMechanismsNamesTellWhichAreSetRow.holds Try.pinned (OpenSpec.ofChange fnMechanismsNamesTellWhichAreSetSpec)

/-- ITS FALSE NEIGHBOUR: 'it returns false'. Refute it at one input. -/
def fnMechanismsNamesTellWhichAreSetWrong : ChangeSpec := { name := "fnMechanismsNamesTellWhichAreSet", fn := fun _ => fun
  | [d1, d2, d3, d4] => { results := [.lit (.bool false)], args := [d1, d2, d3, d4] }
  | _ => none }
def FnMechanismsNamesTellWhichAreSetWrongFalsely : Prop := fnMechanismsNamesTellWhichAreSetRow.holds Try.pinned (OpenSpec.ofChange fnMechanismsNamesTellWhichAreSetWrong)

/-- 'zzlaws_manifest_b1.FnMechanismsGrowWithSetFields': WHATEVER THE INPUT: true; the input reads as it did. -/
def fnMechanismsGrowWithSetFieldsSpec : ChangeSpec := { name := "fnMechanismsGrowWithSetFields", fn := fun _ => fun
  | [d1, d2, d3, d4, d5, d6, d7, d8] => { results := [.lit (.bool true)], args := [d1, d2, d3, d4, d5, d6, d7, d8] }
  | _ => none }
def fnMechanismsGrowWithSetFieldsRow : OpenClaim := { program := "qxb6602235a", sum := "165d4c2aa3538027788577895e3d5f04fac0156360b85ee604484c26d2eca478", func := "example.com/lifesign/lifesign/zzlaws_manifest_b1.FnMechanismsGrowWithSetFields", spec := "fnMechanismsGrowWithSetFields", apart := false }
def FnMechanismsGrowWithSetFieldsSaid : Prop := fnMechanismsGrowWithSetFieldsRow.holds Try.pinned (OpenSpec.ofChange fnMechanismsGrowWithSetFieldsSpec)

/-- ITS FALSE NEIGHBOUR: 'it returns false'. Refute it at one input. -/
def fnMechanismsGrowWithSetFieldsWrong : ChangeSpec := { name := "fnMechanismsGrowWithSetFields", fn := fun _ => fun
  | [d1, d2, d3, d4, d5, d6, d7, d8] => { results := [.lit (.bool false)], args := [d1, d2, d3, d4, d5, d6, d7, d8] }
  | _ => none }
def FnMechanismsGrowWithSetFieldsWrongFalsely : Prop := fnMechanismsGrowWithSetFieldsRow.holds Try.pinned (OpenSpec.ofChange fnMechanismsGrowWithSetFieldsWrong)

end Rows
end Go.Proofs.Qxb6602235a

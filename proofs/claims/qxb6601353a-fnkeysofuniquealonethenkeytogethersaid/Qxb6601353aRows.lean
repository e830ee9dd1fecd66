/-
  No cell of these rows narrows 'for every input' (looked for: loops, veiled, ifaces, maps, wideKeys, modest, calm, conditions, laid).
  DERIVED. THE GIVEN ROWS OF THIS SEAT. 3 by the template 'for every input the law returns true; each argument reads behind the call as it read before'; 0 by the template 'total and deterministic' (their statements: Qxb6601353aTotals.lean).
  GIVEN WITH THE SEED: the statements are not yours to turn. If you find one false, say at which input.
  Laid BY PROGRAM, IN A SANDBOX (cutbox-rows.mjs): the forced cells as the released guide's own fill.sh prints them over the translation fe659907693857ce… (all of the seat's roots in one cut). By AI agents, Wed Nov 11 2026. No macro, syntax, notation, axiom, sorry.
-/
import Derived.Test.Qxb6601353aChecked
import GoSem.Claim
import GoSem.ClaimJoined
import GoSem.ClaimMapViews
import Derived.JoinedTies
import Derived.KernelRfl
namespace Go.Proofs.Qxb6601353a
/- THE CELL 'sum', in the pinned program and in every row, IS THE sha256 OF THE DUMP (.gsa) THAT Qxb6601353aProg.lean LOADS. Nothing in Lean hashes anything: it is a label: what it is worth is what the hold of that sum in a sandbox is worth. -/
noncomputable def Try.pinned : Pinned := { name := "qxb6601353a", sum := "fe659907693857ce0659b183b8ced4efa775e5d1ebc1cbc88f903af40da4c2a3", checked := Try.checked }
namespace Rows
def none {H : Type} : Left H := { results := [], args := [] }

/-- 'zzlaws_pkg_csvfile_b1.FnKeysOfUniqueAloneThenKeyTogether': WHATEVER THE INPUT: true; the input reads as it did. -/
def fnKeysOfUniqueAloneThenKeyTogetherSpec : ChangeSpec := { name := "fnKeysOfUniqueAloneThenKeyTogether", fn := fun _ => fun
  | [d1, d2, d3, d4, d5] => { results := [.lit (.bool true)], args := [d1, d2, d3, d4, d5] }
  | _ => none }
def fnKeysOfUniqueAloneThenKeyTogetherRow : OpenClaim := { program := "qxb6601353a", sum := "fe659907693857ce0659b183b8ced4efa775e5d1ebc1cbc88f903af40da4c2a3", func := "example.com/armslength/armslength/zzlaws_pkg_csvfile_b1.FnKeysOfUniqueAloneThenKeyTogether", spec := "fnKeysOfUniqueAloneThenKeyTogether", apart := false }
def FnKeysOfUniqueAloneThenKeyTogetherSaid : Prop := fnKeysOfUniqueAloneThenKeyTogetherRow.holds Try.pinned (OpenSpec.ofChange fnKeysOfUniqueAloneThenKeyTogetherSpec)

/-- ITS FALSE NEIGHBOUR: 'it returns false'. Refute it at one input. -/
def fnKeysOfUniqueAloneThenKeyTogetherWrong : ChangeSpec := { name := "fnKeysOfUniqueAloneThenKeyTogether", fn := fun _ => fun
  | [d1, d2, d3, d4, d5] => { results := [.lit (.bool false)], args := [d1, d2, d3, d4, d5] }
  | _ => none }
def FnKeysOfUniqueAloneThenKeyTogetherWrongFalsely : Prop := fnKeysOfUniqueAloneThenKeyTogetherRow.holds Try.pinned (OpenSpec.ofChange fnKeysOfUniqueAloneThenKeyTogetherWrong)

/-- 'zzlaws_pkg_csvfile_b1.FnLinesCountsRecordLines': WHATEVER THE INPUT: true; the input reads as it did. -/
def fnLinesCountsRecordLinesSpec : ChangeSpec := { name := "fnLinesCountsRecordLines", fn := fun _ => fun
  | [d1, d2, d3, d4] => { results := [.lit (.bool true)], args := [d1, d2, d3, d4] }
  | _ => none }
def fnLinesCountsRecordLinesRow : OpenClaim := { program := "qxb6601353a", sum := "fe659907693857ce0659b183b8ced4efa775e5d1ebc1cbc88f903af40da4c2a3", func := "example.com/armslength/armslength/zzlaws_pkg_csvfile_b1.FnLinesCountsRecordLines", spec := "fnLinesCountsRecordLines", inPlace := ["internal/bytealg.IndexByte"], apart := false }
def FnLinesCountsRecordLinesSaid : Prop := fnLinesCountsRecordLinesRow.holds Try.pinned (OpenSpec.ofChange fnLinesCountsRecordLinesSpec)

/-- ITS FALSE NEIGHBOUR: 'it returns false'. Refute it at one input. -/
def fnLinesCountsRecordLinesWrong : ChangeSpec := { name := "fnLinesCountsRecordLines", fn := fun _ => fun
  | [d1, d2, d3, d4] => { results := [.lit (.bool false)], args := [d1, d2, d3, d4] }
  | _ => none }
def FnLinesCountsRecordLinesWrongFalsely : Prop := fnLinesCountsRecordLinesRow.holds Try.pinned (OpenSpec.ofChange fnLinesCountsRecordLinesWrong)

/-- 'zzlaws_pkg_csvfile_b1.FnLinesSplitAnywhere': WHATEVER THE INPUT: true; the input reads as it did. -/
def fnLinesSplitAnywhereSpec : ChangeSpec := { name := "fnLinesSplitAnywhere", fn := fun _ => fun
  | [d1, d2, d3, d4, d5] => { results := [.lit (.bool true)], args := [d1, d2, d3, d4, d5] }
  | _ => none }
def fnLinesSplitAnywhereRow : OpenClaim := { program := "qxb6601353a", sum := "fe659907693857ce0659b183b8ced4efa775e5d1ebc1cbc88f903af40da4c2a3", func := "example.com/armslength/armslength/zzlaws_pkg_csvfile_b1.FnLinesSplitAnywhere", spec := "fnLinesSplitAnywhere", inPlace := ["internal/bytealg.IndexByte"], apart := false }
def FnLinesSplitAnywhereSaid : Prop := fnLinesSplitAnywhereRow.holds Try.pinned (OpenSpec.ofChange fnLinesSplitAnywhereSpec)

/-- ITS FALSE NEIGHBOUR: 'it returns false'. Refute it at one input. -/
def fnLinesSplitAnywhereWrong : ChangeSpec := { name := "fnLinesSplitAnywhere", fn := fun _ => fun
  | [d1, d2, d3, d4, d5] => { results := [.lit (.bool false)], args := [d1, d2, d3, d4, d5] }
  | _ => none }
def FnLinesSplitAnywhereWrongFalsely : Prop := fnLinesSplitAnywhereRow.holds Try.pinned (OpenSpec.ofChange fnLinesSplitAnywhereWrong)

end Rows
end Go.Proofs.Qxb6601353a

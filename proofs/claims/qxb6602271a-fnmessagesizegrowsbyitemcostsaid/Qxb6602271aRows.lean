/-
  No cell of these rows narrows 'for every input' (looked for: loops, veiled, ifaces, maps, wideKeys, modest, calm, conditions, laid).
  DERIVED. THE GIVEN ROWS OF THIS SEAT. 7 by the template 'for every input the law returns true; each argument reads behind the call as it read before'; 0 by the template 'total and deterministic' (their statements: Qxb6602271aTotals.lean).
  GIVEN WITH THE SEED: the statements are not yours to turn. If you find one false, say at which input.
  Laid BY PROGRAM, IN A SANDBOX (cutbox-rows.mjs): the forced cells as the released guide's own fill.sh prints them over the translation b6bbcaa4934ed208… (all of the seat's roots in one cut). By AI agents, Wed Nov 11 2026. No macro, syntax, notation, axiom, sorry.
-/
import Derived.Test.Qxb6602271aChecked
import GoSem.Claim
import GoSem.ClaimJoined
import GoSem.ClaimMapViews
import Derived.JoinedTies
import Derived.KernelRfl
namespace Go.Proofs.Qxb6602271a
/- THE CELL 'sum', in the pinned program and in every row, IS THE sha256 OF THE DUMP (.gsa) THAT Qxb6602271aProg.lean LOADS. Nothing in Lean hashes anything: it is a label: what it is worth is what the hold of that sum in a sandbox is worth. -/
noncomputable def Try.pinned : Pinned := { name := "qxb6602271a", sum := "b6bbcaa4934ed208c392fefe5a47c24f361949a33c8ccc9f188be595db7ac348", checked := Try.checked }
namespace Rows
def none {H : Type} : Left H := { results := [], args := [] }

/-- 'zzlaws_internal_wire_b1.FnMessageSizeIgnoresOrderRolesAndScalars': WHATEVER THE INPUT: true; the input reads as it did. -/
def fnMessageSizeIgnoresOrderRolesAndScalarsSpec : ChangeSpec := { name := "fnMessageSizeIgnoresOrderRolesAndScalars", fn := fun _ => fun
  | [d1, d2, d3] => { results := [.lit (.bool true)], args := [d1, d2, d3] }
  | _ => none }
def fnMessageSizeIgnoresOrderRolesAndScalarsRow : OpenClaim := { program := "qxb6602271a", sum := "b6bbcaa4934ed208c392fefe5a47c24f361949a33c8ccc9f188be595db7ac348", func := "example.com/tidechord/tidechord/zzlaws_internal_wire_b1.FnMessageSizeIgnoresOrderRolesAndScalars", spec := "fnMessageSizeIgnoresOrderRolesAndScalars", apart := false }
def FnMessageSizeIgnoresOrderRolesAndScalarsSaid : Prop := fnMessageSizeIgnoresOrderRolesAndScalarsRow.holds Try.pinned (OpenSpec.ofChange fnMessageSizeIgnoresOrderRolesAndScalarsSpec)

/-- ITS FALSE NEIGHBOUR: 'it returns false'. Refute it at one input. -/
def fnMessageSizeIgnoresOrderRolesAndScalarsWrong : ChangeSpec := { name := "fnMessageSizeIgnoresOrderRolesAndScalars", fn := fun _ => fun
  | [d1, d2, d3] => { results := [.lit (.bool false)], args := [d1, d2, d3] }
  | _ => none }
def FnMessageSizeIgnoresOrderRolesAndScalarsWrongFalsely : Prop := fnMessageSizeIgnoresOrderRolesAndScalarsRow.holds Try.pinned (OpenSpec.ofChange fnMessageSizeIgnoresOrderRolesAndScalarsWrong)

/-- 'zzlaws_internal_wire_b1.FnMessageSizeGrowsByItemCost': WHATEVER THE INPUT: true; the input reads as it did. -/
def fnMessageSizeGrowsByItemCostSpec : ChangeSpec := { name := "fnMessageSizeGrowsByItemCost", fn := fun _ => fun
  | [d1, d2, d3, d4, d5] => { results := [.lit (.bool true)], args := [d1, d2, d3, d4, d5] }
  | _ => none }
def fnMessageSizeGrowsByItemCostRow : OpenClaim := { program := "qxb6602271a", sum := "b6bbcaa4934ed208c392fefe5a47c24f361949a33c8ccc9f188be595db7ac348", func := "example.com/tidechord/tidechord/zzlaws_internal_wire_b1.FnMessageSizeGrowsByItemCost", spec := "fnMessageSizeGrowsByItemCost", apart := false }
def FnMessageSizeGrowsByItemCostSaid : Prop := fnMessageSizeGrowsByItemCostRow.holds Try.pinned (OpenSpec.ofChange fnMessageSizeGrowsByItemCostSpec)

/-- ITS FALSE NEIGHBOUR: 'it returns false'. Refute it at one input. -/
def fnMessageSizeGrowsByItemCostWrong : ChangeSpec := { name := "fnMessageSizeGrowsByItemCost", fn := fun _ => fun
  | [d1, d2, d3, d4, d5] => { results := [.lit (.bool false)], args := [d1, d2, d3, d4, d5] }
  | _ => none }
def FnMessageSizeGrowsByItemCostWrongFalsely : Prop := fnMessageSizeGrowsByItemCostRow.holds Try.pinned (OpenSpec.ofChange fnMessageSizeGrowsByItemCostWrong)

/-- 'zzlaws_internal_wire_b1.FnKindsMatchLowestBitPeeling': WHATEVER THE INPUT: true; the input reads as it did. -/
def fnKindsMatchLowestBitPeelingSpec : ChangeSpec := { name := "fnKindsMatchLowestBitPeeling", fn := fun _ => fun
  | [d1, d2, d3, d4] => { results := [.lit (.bool true)], args := [d1, d2, d3, d4] }
  | _ => none }
def fnKindsMatchLowestBitPeelingRow : OpenClaim := { program := "qxb6602271a", sum := "b6bbcaa4934ed208c392fefe5a47c24f361949a33c8ccc9f188be595db7ac348", func := "example.com/tidechord/tidechord/zzlaws_internal_wire_b1.FnKindsMatchLowestBitPeeling", spec := "fnKindsMatchLowestBitPeeling", apart := false }
def FnKindsMatchLowestBitPeelingSaid : Prop := fnKindsMatchLowestBitPeelingRow.holds Try.pinned (OpenSpec.ofChange fnKindsMatchLowestBitPeelingSpec)

/-- ITS FALSE NEIGHBOUR: 'it returns false'. Refute it at one input. -/
def fnKindsMatchLowestBitPeelingWrong : ChangeSpec := { name := "fnKindsMatchLowestBitPeeling", fn := fun _ => fun
  | [d1, d2, d3, d4] => { results := [.lit (.bool false)], args := [d1, d2, d3, d4] }
  | _ => none }
def FnKindsMatchLowestBitPeelingWrongFalsely : Prop := fnKindsMatchLowestBitPeelingRow.holds Try.pinned (OpenSpec.ofChange fnKindsMatchLowestBitPeelingWrong)

/-- 'zzlaws_internal_wire_b1.FnKindsRebuildFlagsInIncreasingOrder': WHATEVER THE INPUT: true; the input reads as it did. -/
def fnKindsRebuildFlagsInIncreasingOrderSpec : ChangeSpec := { name := "fnKindsRebuildFlagsInIncreasingOrder", fn := fun _ => fun
  | [d1, d2, d3, d4] => { results := [.lit (.bool true)], args := [d1, d2, d3, d4] }
  | _ => none }
def fnKindsRebuildFlagsInIncreasingOrderRow : OpenClaim := { program := "qxb6602271a", sum := "b6bbcaa4934ed208c392fefe5a47c24f361949a33c8ccc9f188be595db7ac348", func := "example.com/tidechord/tidechord/zzlaws_internal_wire_b1.FnKindsRebuildFlagsInIncreasingOrder", spec := "fnKindsRebuildFlagsInIncreasingOrder", apart := false }
def FnKindsRebuildFlagsInIncreasingOrderSaid : Prop := fnKindsRebuildFlagsInIncreasingOrderRow.holds Try.pinned (OpenSpec.ofChange fnKindsRebuildFlagsInIncreasingOrderSpec)

/-- ITS FALSE NEIGHBOUR: 'it returns false'. Refute it at one input. -/
def fnKindsRebuildFlagsInIncreasingOrderWrong : ChangeSpec := { name := "fnKindsRebuildFlagsInIncreasingOrder", fn := fun _ => fun
  | [d1, d2, d3, d4] => { results := [.lit (.bool false)], args := [d1, d2, d3, d4] }
  | _ => none }
def FnKindsRebuildFlagsInIncreasingOrderWrongFalsely : Prop := fnKindsRebuildFlagsInIncreasingOrderRow.holds Try.pinned (OpenSpec.ofChange fnKindsRebuildFlagsInIncreasingOrderWrong)

/-- 'zzlaws_internal_wire_b1.FnKindsOfUnionIsMergedKinds': WHATEVER THE INPUT: true; the input reads as it did. -/
def fnKindsOfUnionIsMergedKindsSpec : ChangeSpec := { name := "fnKindsOfUnionIsMergedKinds", fn := fun _ => fun
  | [d1, d2] => { results := [.lit (.bool true)], args := [d1, d2] }
  | _ => none }
def fnKindsOfUnionIsMergedKindsRow : OpenClaim := { program := "qxb6602271a", sum := "b6bbcaa4934ed208c392fefe5a47c24f361949a33c8ccc9f188be595db7ac348", func := "example.com/tidechord/tidechord/zzlaws_internal_wire_b1.FnKindsOfUnionIsMergedKinds", spec := "fnKindsOfUnionIsMergedKinds", apart := false }
def FnKindsOfUnionIsMergedKindsSaid : Prop := fnKindsOfUnionIsMergedKindsRow.holds Try.pinned (OpenSpec.ofChange fnKindsOfUnionIsMergedKindsSpec)

/-- ITS FALSE NEIGHBOUR: 'it returns false'. Refute it at one input. -/
def fnKindsOfUnionIsMergedKindsWrong : ChangeSpec := { name := "fnKindsOfUnionIsMergedKinds", fn := fun _ => fun
  | [d1, d2] => { results := [.lit (.bool false)], args := [d1, d2] }
  | _ => none }
def FnKindsOfUnionIsMergedKindsWrongFalsely : Prop := fnKindsOfUnionIsMergedKindsRow.holds Try.pinned (OpenSpec.ofChange fnKindsOfUnionIsMergedKindsWrong)

/-- 'zzlaws_internal_wire_b1.FnExtensionOfMatchesReverseScan': WHATEVER THE INPUT: true; the input reads as it did. -/
def fnExtensionOfMatchesReverseScanSpec : ChangeSpec := { name := "fnExtensionOfMatchesReverseScan", fn := fun _ => fun
  | [d1, d2] => { results := [.lit (.bool true)], args := [d1, d2] }
  | _ => none }
def fnExtensionOfMatchesReverseScanRow : OpenClaim := { program := "qxb6602271a", sum := "b6bbcaa4934ed208c392fefe5a47c24f361949a33c8ccc9f188be595db7ac348", func := "example.com/tidechord/tidechord/zzlaws_internal_wire_b1.FnExtensionOfMatchesReverseScan", spec := "fnExtensionOfMatchesReverseScan", apart := false }
def FnExtensionOfMatchesReverseScanSaid : Prop := fnExtensionOfMatchesReverseScanRow.holds Try.pinned (OpenSpec.ofChange fnExtensionOfMatchesReverseScanSpec)

/-- ITS FALSE NEIGHBOUR: 'it returns false'. Refute it at one input. -/
def fnExtensionOfMatchesReverseScanWrong : ChangeSpec := { name := "fnExtensionOfMatchesReverseScan", fn := fun _ => fun
  | [d1, d2] => { results := [.lit (.bool false)], args := [d1, d2] }
  | _ => none }
def FnExtensionOfMatchesReverseScanWrongFalsely : Prop := fnExtensionOfMatchesReverseScanRow.holds Try.pinned (OpenSpec.ofChange fnExtensionOfMatchesReverseScanWrong)

/-- 'zzlaws_internal_wire_b1.FnExtensionOfSplitsOverConcatenation': WHATEVER THE INPUT: true; the input reads as it did. -/
def fnExtensionOfSplitsOverConcatenationSpec : ChangeSpec := { name := "fnExtensionOfSplitsOverConcatenation", fn := fun _ => fun
  | [d1, d2, d3] => { results := [.lit (.bool true)], args := [d1, d2, d3] }
  | _ => none }
def fnExtensionOfSplitsOverConcatenationRow : OpenClaim := { program := "qxb6602271a", sum := "b6bbcaa4934ed208c392fefe5a47c24f361949a33c8ccc9f188be595db7ac348", func := "example.com/tidechord/tidechord/zzlaws_internal_wire_b1.FnExtensionOfSplitsOverConcatenation", spec := "fnExtensionOfSplitsOverConcatenation", apart := false }
def FnExtensionOfSplitsOverConcatenationSaid : Prop := fnExtensionOfSplitsOverConcatenationRow.holds Try.pinned (OpenSpec.ofChange fnExtensionOfSplitsOverConcatenationSpec)

/-- ITS FALSE NEIGHBOUR: 'it returns false'. Refute it at one input. -/
def fnExtensionOfSplitsOverConcatenationWrong : ChangeSpec := { name := "fnExtensionOfSplitsOverConcatenation", fn := fun _ => fun
  | [d1, d2, d3] => { results := [.lit (.bool false)], args := [d1, d2, d3] }
  | _ => none }
def FnExtensionOfSplitsOverConcatenationWrongFalsely : Prop := fnExtensionOfSplitsOverConcatenationRow.holds Try.pinned (OpenSpec.ofChange fnExtensionOfSplitsOverConcatenationWrong)

end Rows
end Go.Proofs.Qxb6602271a

/-
  No cell of these rows narrows 'for every input' (looked for: loops, veiled, ifaces, maps, wideKeys, modest, calm, conditions, laid).
  DERIVED. THE GIVEN ROWS OF THIS SEAT. 5 by the template 'for every input the law returns true; each argument reads behind the call as it read before'; 0 by the template 'total and deterministic' (their statements: Qxb6617173aTotals.lean).
  GIVEN WITH THE SEED: the statements are not yours to turn. If you find one false, say at which input.
  Laid BY PROGRAM, IN A SANDBOX (cutbox-rows.mjs): the forced cells as the released guide's own fill.sh prints them over the translation d5934bf2141001e7… (all of the seat's roots in one cut). By AI agents, Wed Nov 11 2026. No macro, syntax, notation, axiom, sorry.
-/
import Derived.Test.Qxb6617173aChecked
import GoSem.Claim
import GoSem.ClaimJoined
import GoSem.ClaimMapViews
import Derived.JoinedTies
import Derived.KernelRfl
namespace Go.Proofs.Qxb6617173a
/- THE CELL 'sum', in the pinned program and in every row, IS THE sha256 OF THE DUMP (.gsa) THAT Qxb6617173aProg.lean LOADS. Nothing in Lean hashes anything: it is a label: what it is worth is what the hold of that sum in a sandbox is worth. -/
noncomputable def Try.pinned : Pinned := { name := "qxb6617173a", sum := "d5934bf2141001e79b1a6437601f90f8e00f91b6c819b3d680e6cc1a86e1cb98", checked := Try.checked }
namespace Rows
def none {H : Type} : Left H := { results := [], args := [] }

/-- 'zzlaws_internal_engine_b1.FnSameRowSplitsAtAnyCut': WHATEVER THE INPUT: true; the input reads as it did. -/
def fnSameRowSplitsAtAnyCutSpec : ChangeSpec := { name := "fnSameRowSplitsAtAnyCut", fn := fun _ => fun
  | [d1, d2, d3] => { results := [.lit (.bool true)], args := [d1, d2, d3] }
  | _ => none }
def fnSameRowSplitsAtAnyCutRow : OpenClaim := { program := "qxb6617173a", sum := "d5934bf2141001e79b1a6437601f90f8e00f91b6c819b3d680e6cc1a86e1cb98", func := "example.com/redoubt/redoubt/zzlaws_internal_engine_b1.FnSameRowSplitsAtAnyCut", spec := "fnSameRowSplitsAtAnyCut", apart := false }
def FnSameRowSplitsAtAnyCutSaid : Prop := fnSameRowSplitsAtAnyCutRow.holds Try.pinned (OpenSpec.ofChange fnSameRowSplitsAtAnyCutSpec)

/-- ITS FALSE NEIGHBOUR: 'it returns false'. Refute it at one input. -/
def fnSameRowSplitsAtAnyCutWrong : ChangeSpec := { name := "fnSameRowSplitsAtAnyCut", fn := fun _ => fun
  | [d1, d2, d3] => { results := [.lit (.bool false)], args := [d1, d2, d3] }
  | _ => none }
def FnSameRowSplitsAtAnyCutWrongFalsely : Prop := fnSameRowSplitsAtAnyCutRow.holds Try.pinned (OpenSpec.ofChange fnSameRowSplitsAtAnyCutWrong)

/-- 'zzlaws_internal_engine_b1.FnSameRowRefusesOneChangedValue': WHATEVER THE INPUT: true; the input reads as it did. -/
def fnSameRowRefusesOneChangedValueSpec : ChangeSpec := { name := "fnSameRowRefusesOneChangedValue", fn := fun _ => fun
  | [d1, d2, d3] => { results := [.lit (.bool true)], args := [d1, d2, d3] }
  | _ => none }
def fnSameRowRefusesOneChangedValueRow : OpenClaim := { program := "qxb6617173a", sum := "d5934bf2141001e79b1a6437601f90f8e00f91b6c819b3d680e6cc1a86e1cb98", func := "example.com/redoubt/redoubt/zzlaws_internal_engine_b1.FnSameRowRefusesOneChangedValue", spec := "fnSameRowRefusesOneChangedValue", apart := false }
def FnSameRowRefusesOneChangedValueSaid : Prop := fnSameRowRefusesOneChangedValueRow.holds Try.pinned (OpenSpec.ofChange fnSameRowRefusesOneChangedValueSpec)

/-- ITS FALSE NEIGHBOUR: 'it returns false'. Refute it at one input. -/
def fnSameRowRefusesOneChangedValueWrong : ChangeSpec := { name := "fnSameRowRefusesOneChangedValue", fn := fun _ => fun
  | [d1, d2, d3] => { results := [.lit (.bool false)], args := [d1, d2, d3] }
  | _ => none }
def FnSameRowRefusesOneChangedValueWrongFalsely : Prop := fnSameRowRefusesOneChangedValueRow.holds Try.pinned (OpenSpec.ofChange fnSameRowRefusesOneChangedValueWrong)

/-- 'zzlaws_internal_engine_b1.FnConflictsJoinsOverHeldModes': WHATEVER THE INPUT: true; the input reads as it did. -/
def fnConflictsJoinsOverHeldModesSpec : ChangeSpec := { name := "fnConflictsJoinsOverHeldModes", fn := fun _ => fun
  | [d1, d2, d3] => { results := [.lit (.bool true)], args := [d1, d2, d3] }
  | _ => none }
def fnConflictsJoinsOverHeldModesRow : OpenClaim := { program := "qxb6617173a", sum := "d5934bf2141001e79b1a6437601f90f8e00f91b6c819b3d680e6cc1a86e1cb98", func := "example.com/redoubt/redoubt/zzlaws_internal_engine_b1.FnConflictsJoinsOverHeldModes", spec := "fnConflictsJoinsOverHeldModes", apart := false }
def FnConflictsJoinsOverHeldModesSaid : Prop := fnConflictsJoinsOverHeldModesRow.holds Try.pinned (OpenSpec.ofChange fnConflictsJoinsOverHeldModesSpec)

/-- ITS FALSE NEIGHBOUR: 'it returns false'. Refute it at one input. -/
def fnConflictsJoinsOverHeldModesWrong : ChangeSpec := { name := "fnConflictsJoinsOverHeldModes", fn := fun _ => fun
  | [d1, d2, d3] => { results := [.lit (.bool false)], args := [d1, d2, d3] }
  | _ => none }
def FnConflictsJoinsOverHeldModesWrongFalsely : Prop := fnConflictsJoinsOverHeldModesRow.holds Try.pinned (OpenSpec.ofChange fnConflictsJoinsOverHeldModesWrong)

/-- 'zzlaws_internal_engine_b1.FnConflictsJoinsOverAskedModes': WHATEVER THE INPUT: true; the input reads as it did. -/
def fnConflictsJoinsOverAskedModesSpec : ChangeSpec := { name := "fnConflictsJoinsOverAskedModes", fn := fun _ => fun
  | [d1, d2, d3] => { results := [.lit (.bool true)], args := [d1, d2, d3] }
  | _ => none }
def fnConflictsJoinsOverAskedModesRow : OpenClaim := { program := "qxb6617173a", sum := "d5934bf2141001e79b1a6437601f90f8e00f91b6c819b3d680e6cc1a86e1cb98", func := "example.com/redoubt/redoubt/zzlaws_internal_engine_b1.FnConflictsJoinsOverAskedModes", spec := "fnConflictsJoinsOverAskedModes", apart := false }
def FnConflictsJoinsOverAskedModesSaid : Prop := fnConflictsJoinsOverAskedModesRow.holds Try.pinned (OpenSpec.ofChange fnConflictsJoinsOverAskedModesSpec)

/-- ITS FALSE NEIGHBOUR: 'it returns false'. Refute it at one input. -/
def fnConflictsJoinsOverAskedModesWrong : ChangeSpec := { name := "fnConflictsJoinsOverAskedModes", fn := fun _ => fun
  | [d1, d2, d3] => { results := [.lit (.bool false)], args := [d1, d2, d3] }
  | _ => none }
def FnConflictsJoinsOverAskedModesWrongFalsely : Prop := fnConflictsJoinsOverAskedModesRow.holds Try.pinned (OpenSpec.ofChange fnConflictsJoinsOverAskedModesWrong)

/-- 'zzlaws_internal_engine_b1.FnConflictsWaitsOnlyThroughExclusiveOrGap': WHATEVER THE INPUT: true; the input reads as it did. -/
def fnConflictsWaitsOnlyThroughExclusiveOrGapSpec : ChangeSpec := { name := "fnConflictsWaitsOnlyThroughExclusiveOrGap", fn := fun _ => fun
  | [d1, d2] => { results := [.lit (.bool true)], args := [d1, d2] }
  | _ => none }
def fnConflictsWaitsOnlyThroughExclusiveOrGapRow : OpenClaim := { program := "qxb6617173a", sum := "d5934bf2141001e79b1a6437601f90f8e00f91b6c819b3d680e6cc1a86e1cb98", func := "example.com/redoubt/redoubt/zzlaws_internal_engine_b1.FnConflictsWaitsOnlyThroughExclusiveOrGap", spec := "fnConflictsWaitsOnlyThroughExclusiveOrGap", apart := false }
def FnConflictsWaitsOnlyThroughExclusiveOrGapSaid : Prop := fnConflictsWaitsOnlyThroughExclusiveOrGapRow.holds Try.pinned (OpenSpec.ofChange fnConflictsWaitsOnlyThroughExclusiveOrGapSpec)

/-- ITS FALSE NEIGHBOUR: 'it returns false'. Refute it at one input. -/
def fnConflictsWaitsOnlyThroughExclusiveOrGapWrong : ChangeSpec := { name := "fnConflictsWaitsOnlyThroughExclusiveOrGap", fn := fun _ => fun
  | [d1, d2] => { results := [.lit (.bool false)], args := [d1, d2] }
  | _ => none }
def FnConflictsWaitsOnlyThroughExclusiveOrGapWrongFalsely : Prop := fnConflictsWaitsOnlyThroughExclusiveOrGapRow.holds Try.pinned (OpenSpec.ofChange fnConflictsWaitsOnlyThroughExclusiveOrGapWrong)

end Rows
end Go.Proofs.Qxb6617173a

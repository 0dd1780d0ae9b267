/-
  No cell of these rows narrows 'for every input' (looked for: loops, veiled, ifaces, maps, wideKeys, modest, calm, conditions, laid).
  DERIVED. THE GIVEN ROWS OF THIS SEAT. 4 by the template 'for every input the law returns true; each argument reads behind the call as it read before'; 0 by the template 'total and deterministic' (their statements: Qxb6000076aTotals.lean).
  GIVEN WITH THE SEED: the statements are not yours to turn. If you find one false, say at which input.
  Laid BY PROGRAM, IN A SANDBOX (cutbox-rows.mjs): the forced cells as the released guide's own fill.sh prints them over the translation 9bd3614195678cfa… (all of the seat's roots in one cut). By AI agents, Wed Nov 11 2026. No macro, syntax, notation, axiom, sorry.
-/
import Derived.Test.Qxb6000076aChecked
import GoSem.Claim
import GoSem.ClaimJoined
import GoSem.ClaimMapViews
import Derived.JoinedTies
import Derived.KernelRfl
namespace Go.Proofs.Qxb6000076a
/- THE CELL 'sum', in the pinned program and in every row, IS THE sha256 OF THE DUMP (.gsa) THAT Qxb6000076aProg.lean LOADS. Nothing in Lean hashes anything: it is a label: what it is worth is what the hold of that sum in a sandbox is worth. -/
noncomputable def Try.pinned : Pinned := { name := "qxb6000076a", sum := "9bd3614195678cfa81a6c7c9879ab0575a6ce2c52f59d59df4a45993eb13ff2b", checked := Try.checked }
namespace Rows
def none {H : Type} : Left H := { results := [], args := [] }

/-- 'zzlaws_pkg_record_b1.FnCodeUnitHexValue': WHATEVER THE INPUT: true; the input reads as it did. -/
def fnCodeUnitHexValueSpec : ChangeSpec := { name := "fnCodeUnitHexValue", fn := fun _ => fun
  | [d] => { results := [.lit (.bool true)], args := [d] }
  | _ => none }
def fnCodeUnitHexValueRow : OpenClaim := { program := "qxb6000076a", sum := "9bd3614195678cfa81a6c7c9879ab0575a6ce2c52f59d59df4a45993eb13ff2b", func := "example.com/attestrail/attestrail/zzlaws_pkg_record_b1.FnCodeUnitHexValue", spec := "fnCodeUnitHexValue", apart := false }
def FnCodeUnitHexValueSaid : Prop := fnCodeUnitHexValueRow.holds Try.pinned (OpenSpec.ofChange fnCodeUnitHexValueSpec)

/-- ITS FALSE NEIGHBOUR: 'it returns false'. Refute it at one input. -/
def fnCodeUnitHexValueWrong : ChangeSpec := { name := "fnCodeUnitHexValue", fn := fun _ => fun
  | [d] => { results := [.lit (.bool false)], args := [d] }
  | _ => none }
def FnCodeUnitHexValueWrongFalsely : Prop := fnCodeUnitHexValueRow.holds Try.pinned (OpenSpec.ofChange fnCodeUnitHexValueWrong)

/-- 'zzlaws_pkg_record_b1.FnCodeUnitRoundTrip': WHATEVER THE INPUT: true; the input reads as it did. -/
def fnCodeUnitRoundTripSpec : ChangeSpec := { name := "fnCodeUnitRoundTrip", fn := fun _ => fun
  | [d1, d2, d3] => { results := [.lit (.bool true)], args := [d1, d2, d3] }
  | _ => none }
def fnCodeUnitRoundTripRow : OpenClaim := { program := "qxb6000076a", sum := "9bd3614195678cfa81a6c7c9879ab0575a6ce2c52f59d59df4a45993eb13ff2b", func := "example.com/attestrail/attestrail/zzlaws_pkg_record_b1.FnCodeUnitRoundTrip", spec := "fnCodeUnitRoundTrip", apart := false }
def FnCodeUnitRoundTripSaid : Prop := fnCodeUnitRoundTripRow.holds Try.pinned (OpenSpec.ofChange fnCodeUnitRoundTripSpec)

/-- ITS FALSE NEIGHBOUR: 'it returns false'. Refute it at one input. -/
def fnCodeUnitRoundTripWrong : ChangeSpec := { name := "fnCodeUnitRoundTrip", fn := fun _ => fun
  | [d1, d2, d3] => { results := [.lit (.bool false)], args := [d1, d2, d3] }
  | _ => none }
def FnCodeUnitRoundTripWrongFalsely : Prop := fnCodeUnitRoundTripRow.holds Try.pinned (OpenSpec.ofChange fnCodeUnitRoundTripWrong)

/-- 'zzlaws_pkg_record_b1.FnCountMembersTopLevel': WHATEVER THE INPUT: true; the input reads as it did. -/
def fnCountMembersTopLevelSpec : ChangeSpec := { name := "fnCountMembersTopLevel", fn := fun _ => fun
  | [d] => { results := [.lit (.bool true)], args := [d] }
  | _ => none }
def fnCountMembersTopLevelRow : OpenClaim := { program := "qxb6000076a", sum := "9bd3614195678cfa81a6c7c9879ab0575a6ce2c52f59d59df4a45993eb13ff2b", func := "example.com/attestrail/attestrail/zzlaws_pkg_record_b1.FnCountMembersTopLevel", spec := "fnCountMembersTopLevel", recurses := true, apart := false }
def FnCountMembersTopLevelSaid : Prop := fnCountMembersTopLevelRow.holds Try.pinned (OpenSpec.ofChange fnCountMembersTopLevelSpec)

/-- ITS FALSE NEIGHBOUR: 'it returns false'. Refute it at one input. -/
def fnCountMembersTopLevelWrong : ChangeSpec := { name := "fnCountMembersTopLevel", fn := fun _ => fun
  | [d] => { results := [.lit (.bool false)], args := [d] }
  | _ => none }
def FnCountMembersTopLevelWrongFalsely : Prop := fnCountMembersTopLevelRow.holds Try.pinned (OpenSpec.ofChange fnCountMembersTopLevelWrong)

/-- 'zzlaws_pkg_record_b1.FnCountMembersOfBuiltObject': WHATEVER THE INPUT: true; the input reads as it did. -/
def fnCountMembersOfBuiltObjectSpec : ChangeSpec := { name := "fnCountMembersOfBuiltObject", fn := fun _ => fun
  | [d] => { results := [.lit (.bool true)], args := [d] }
  | _ => none }
def fnCountMembersOfBuiltObjectRow : OpenClaim := { program := "qxb6000076a", sum := "9bd3614195678cfa81a6c7c9879ab0575a6ce2c52f59d59df4a45993eb13ff2b", func := "example.com/attestrail/attestrail/zzlaws_pkg_record_b1.FnCountMembersOfBuiltObject", spec := "fnCountMembersOfBuiltObject", apart := false }
def FnCountMembersOfBuiltObjectSaid : Prop := fnCountMembersOfBuiltObjectRow.holds Try.pinned (OpenSpec.ofChange fnCountMembersOfBuiltObjectSpec)

/-- ITS FALSE NEIGHBOUR: 'it returns false'. Refute it at one input. -/
def fnCountMembersOfBuiltObjectWrong : ChangeSpec := { name := "fnCountMembersOfBuiltObject", fn := fun _ => fun
  | [d] => { results := [.lit (.bool false)], args := [d] }
  | _ => none }
def FnCountMembersOfBuiltObjectWrongFalsely : Prop := fnCountMembersOfBuiltObjectRow.holds Try.pinned (OpenSpec.ofChange fnCountMembersOfBuiltObjectWrong)

end Rows
end Go.Proofs.Qxb6000076a

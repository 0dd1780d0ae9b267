/-
  No cell of these rows narrows 'for every input' (looked for: loops, veiled, ifaces, maps, wideKeys, modest, calm, conditions, laid).
  DERIVED. THE GIVEN ROWS OF THIS SEAT. 5 by the template 'for every input the law returns true; each argument reads behind the call as it read before'; 0 by the template 'total and deterministic' (their statements: Qxb6000028aTotals.lean).
  GIVEN WITH THE SEED: the statements are not yours to turn. If you find one false, say at which input.
  Laid BY PROGRAM, IN A SANDBOX (cutbox-rows.mjs): the forced cells as the released guide's own fill.sh prints them over the translation c16321151ed1f609… (all of the seat's roots in one cut). By AI agents, Wed Nov 11 2026. No macro, syntax, notation, axiom, sorry.
-/
import Derived.Test.Qxb6000028aChecked
import GoSem.Claim
import GoSem.ClaimJoined
import GoSem.ClaimMapViews
import Derived.JoinedTies
import Derived.KernelRfl
namespace Go.Proofs.Qxb6000028a
/- THE CELL 'sum', in the pinned program and in every row, IS THE sha256 OF THE DUMP (.gsa) THAT Qxb6000028aProg.lean LOADS. Nothing in Lean hashes anything: it is a label: what it is worth is what the hold of that sum in a sandbox is worth. -/
noncomputable def Try.pinned : Pinned := { name := "qxb6000028a", sum := "c16321151ed1f609a02f72e96c6f81e84674769f80731c55ead1255853ee5c6e", checked := Try.checked }
namespace Rows
def none {H : Type} : Left H := { results := [], args := [] }

/-- 'zzlaws_internal_model_b1.FnReversedTwiceRestores': WHATEVER THE INPUT: true; the input reads as it did. -/
def fnReversedTwiceRestoresSpec : ChangeSpec := { name := "fnReversedTwiceRestores", fn := fun _ => fun
  | [d1, d2, d3, d4, d5, d6, d7, d8] => { results := [.lit (.bool true)], args := [d1, d2, d3, d4, d5, d6, d7, d8] }
  | _ => none }
def fnReversedTwiceRestoresRow : OpenClaim := { program := "qxb6000028a", sum := "c16321151ed1f609a02f72e96c6f81e84674769f80731c55ead1255853ee5c6e", func := "example.com/modelwright/modelwright/zzlaws_internal_model_b1.FnReversedTwiceRestores", spec := "fnReversedTwiceRestores", apart := false }
def FnReversedTwiceRestoresSaid : Prop := fnReversedTwiceRestoresRow.holds Try.pinned (OpenSpec.ofChange fnReversedTwiceRestoresSpec)

/-- ITS FALSE NEIGHBOUR: 'it returns false'. Refute it at one input. -/
def fnReversedTwiceRestoresWrong : ChangeSpec := { name := "fnReversedTwiceRestores", fn := fun _ => fun
  | [d1, d2, d3, d4, d5, d6, d7, d8] => { results := [.lit (.bool false)], args := [d1, d2, d3, d4, d5, d6, d7, d8] }
  | _ => none }
def FnReversedTwiceRestoresWrongFalsely : Prop := fnReversedTwiceRestoresRow.holds Try.pinned (OpenSpec.ofChange fnReversedTwiceRestoresWrong)

/-- 'zzlaws_internal_model_b1.FnReversedKeepsKeyPlaces': WHATEVER THE INPUT: true; the input reads as it did. -/
def fnReversedKeepsKeyPlacesSpec : ChangeSpec := { name := "fnReversedKeepsKeyPlaces", fn := fun _ => fun
  | [d1, d2, d3, d4, d5, d6, d7, d8, d9, d10] => { results := [.lit (.bool true)], args := [d1, d2, d3, d4, d5, d6, d7, d8, d9, d10] }
  | _ => none }
def fnReversedKeepsKeyPlacesRow : OpenClaim := { program := "qxb6000028a", sum := "c16321151ed1f609a02f72e96c6f81e84674769f80731c55ead1255853ee5c6e", func := "example.com/modelwright/modelwright/zzlaws_internal_model_b1.FnReversedKeepsKeyPlaces", spec := "fnReversedKeepsKeyPlaces", apart := false }
def FnReversedKeepsKeyPlacesSaid : Prop := fnReversedKeepsKeyPlacesRow.holds Try.pinned (OpenSpec.ofChange fnReversedKeepsKeyPlacesSpec)

/-- ITS FALSE NEIGHBOUR: 'it returns false'. Refute it at one input. -/
def fnReversedKeepsKeyPlacesWrong : ChangeSpec := { name := "fnReversedKeepsKeyPlaces", fn := fun _ => fun
  | [d1, d2, d3, d4, d5, d6, d7, d8, d9, d10] => { results := [.lit (.bool false)], args := [d1, d2, d3, d4, d5, d6, d7, d8, d9, d10] }
  | _ => none }
def FnReversedKeepsKeyPlacesWrongFalsely : Prop := fnReversedKeepsKeyPlacesRow.holds Try.pinned (OpenSpec.ofChange fnReversedKeepsKeyPlacesWrong)

/-- 'zzlaws_internal_model_b1.FnExtremeOfRelations': WHATEVER THE INPUT: true; the input reads as it did. -/
def fnExtremeOfRelationsSpec : ChangeSpec := { name := "fnExtremeOfRelations", fn := fun _ => fun
  | [d] => { results := [.lit (.bool true)], args := [d] }
  | _ => none }
def fnExtremeOfRelationsRow : OpenClaim := { program := "qxb6000028a", sum := "c16321151ed1f609a02f72e96c6f81e84674769f80731c55ead1255853ee5c6e", func := "example.com/modelwright/modelwright/zzlaws_internal_model_b1.FnExtremeOfRelations", spec := "fnExtremeOfRelations", apart := false }
def FnExtremeOfRelationsSaid : Prop := fnExtremeOfRelationsRow.holds Try.pinned (OpenSpec.ofChange fnExtremeOfRelationsSpec)

/-- ITS FALSE NEIGHBOUR: 'it returns false'. Refute it at one input. -/
def fnExtremeOfRelationsWrong : ChangeSpec := { name := "fnExtremeOfRelations", fn := fun _ => fun
  | [d] => { results := [.lit (.bool false)], args := [d] }
  | _ => none }
def FnExtremeOfRelationsWrongFalsely : Prop := fnExtremeOfRelationsRow.holds Try.pinned (OpenSpec.ofChange fnExtremeOfRelationsWrong)

/-- 'zzlaws_internal_model_b1.FnAttributeFirstMatch': WHATEVER THE INPUT: true; the input reads as it did. -/
def fnAttributeFirstMatchSpec : ChangeSpec := { name := "fnAttributeFirstMatch", fn := fun _ => fun
  | [d1, d2] => { results := [.lit (.bool true)], args := [d1, d2] }
  | _ => none }
def fnAttributeFirstMatchRow : OpenClaim := { program := "qxb6000028a", sum := "c16321151ed1f609a02f72e96c6f81e84674769f80731c55ead1255853ee5c6e", func := "example.com/modelwright/modelwright/zzlaws_internal_model_b1.FnAttributeFirstMatch", spec := "fnAttributeFirstMatch", apart := false }
def FnAttributeFirstMatchSaid : Prop := fnAttributeFirstMatchRow.holds Try.pinned (OpenSpec.ofChange fnAttributeFirstMatchSpec)

/-- ITS FALSE NEIGHBOUR: 'it returns false'. Refute it at one input. -/
def fnAttributeFirstMatchWrong : ChangeSpec := { name := "fnAttributeFirstMatch", fn := fun _ => fun
  | [d1, d2] => { results := [.lit (.bool false)], args := [d1, d2] }
  | _ => none }
def FnAttributeFirstMatchWrongFalsely : Prop := fnAttributeFirstMatchRow.holds Try.pinned (OpenSpec.ofChange fnAttributeFirstMatchWrong)

/-- 'zzlaws_internal_model_b1.FnAttributeAppendStable': WHATEVER THE INPUT: true; the input reads as it did. -/
def fnAttributeAppendStableSpec : ChangeSpec := { name := "fnAttributeAppendStable", fn := fun _ => fun
  | [d1, d2, d3] => { results := [.lit (.bool true)], args := [d1, d2, d3] }
  | _ => none }
def fnAttributeAppendStableRow : OpenClaim := { program := "qxb6000028a", sum := "c16321151ed1f609a02f72e96c6f81e84674769f80731c55ead1255853ee5c6e", func := "example.com/modelwright/modelwright/zzlaws_internal_model_b1.FnAttributeAppendStable", spec := "fnAttributeAppendStable", apart := false }
def FnAttributeAppendStableSaid : Prop := fnAttributeAppendStableRow.holds Try.pinned (OpenSpec.ofChange fnAttributeAppendStableSpec)

/-- ITS FALSE NEIGHBOUR: 'it returns false'. Refute it at one input. -/
def fnAttributeAppendStableWrong : ChangeSpec := { name := "fnAttributeAppendStable", fn := fun _ => fun
  | [d1, d2, d3] => { results := [.lit (.bool false)], args := [d1, d2, d3] }
  | _ => none }
def FnAttributeAppendStableWrongFalsely : Prop := fnAttributeAppendStableRow.holds Try.pinned (OpenSpec.ofChange fnAttributeAppendStableWrong)

end Rows
end Go.Proofs.Qxb6000028a

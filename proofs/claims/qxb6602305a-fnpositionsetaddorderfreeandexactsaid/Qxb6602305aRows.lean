/-
  No cell of these rows narrows 'for every input' (looked for: loops, veiled, ifaces, maps, wideKeys, modest, calm, conditions, laid).
  DERIVED. THE GIVEN ROWS OF THIS SEAT. 5 by the template 'for every input the law returns true; each argument reads behind the call as it read before'; 0 by the template 'total and deterministic' (their statements: Qxb6602305aTotals.lean).
  GIVEN WITH THE SEED: the statements are not yours to turn. If you find one false, say at which input.
  Laid BY PROGRAM, IN A SANDBOX (cutbox-rows.mjs): the forced cells as the released guide's own fill.sh prints them over the translation 6158843e9e965cb6… (all of the seat's roots in one cut). By AI agents, Wed Nov 11 2026. No macro, syntax, notation, axiom, sorry.
-/
import Derived.Test.Qxb6602305aChecked
import GoSem.Claim
import GoSem.ClaimJoined
import GoSem.ClaimMapViews
import Derived.JoinedTies
import Derived.KernelRfl
namespace Go.Proofs.Qxb6602305a
/- THE CELL 'sum', in the pinned program and in every row, IS THE sha256 OF THE DUMP (.gsa) THAT Qxb6602305aProg.lean LOADS. Nothing in Lean hashes anything: it is a label: what it is worth is what the hold of that sum in a sandbox is worth. -/
noncomputable def Try.pinned : Pinned := { name := "qxb6602305a", sum := "6158843e9e965cb6eb3f0774a8c371920912e0c8ee0d348a7e539407cea597f8", checked := Try.checked }
namespace Rows
def none {H : Type} : Left H := { results := [], args := [] }

/-- 'zzlaws_root_b1.FnIsJSONNumberMatchesAutomaton': WHATEVER THE INPUT: true; the input reads as it did. -/
def fnIsJSONNumberMatchesAutomatonSpec : ChangeSpec := { name := "fnIsJSONNumberMatchesAutomaton", fn := fun _ => fun
  | [d] => { results := [.lit (.bool true)], args := [d] }
  | _ => none }
def fnIsJSONNumberMatchesAutomatonRow : OpenClaim := { program := "qxb6602305a", sum := "6158843e9e965cb6eb3f0774a8c371920912e0c8ee0d348a7e539407cea597f8", func := "example.com/bailiff/bailiff/zzlaws_root_b1.FnIsJSONNumberMatchesAutomaton", spec := "fnIsJSONNumberMatchesAutomaton", unfollowed := true, recurses := true, apart := false }
def FnIsJSONNumberMatchesAutomatonSaid : Prop := fnIsJSONNumberMatchesAutomatonRow.holds Try.pinned (OpenSpec.ofChange fnIsJSONNumberMatchesAutomatonSpec)

/-- ITS FALSE NEIGHBOUR: 'it returns false'. Refute it at one input. -/
def fnIsJSONNumberMatchesAutomatonWrong : ChangeSpec := { name := "fnIsJSONNumberMatchesAutomaton", fn := fun _ => fun
  | [d] => { results := [.lit (.bool false)], args := [d] }
  | _ => none }
def FnIsJSONNumberMatchesAutomatonWrongFalsely : Prop := fnIsJSONNumberMatchesAutomatonRow.holds Try.pinned (OpenSpec.ofChange fnIsJSONNumberMatchesAutomatonWrong)

/-- 'zzlaws_root_b1.FnIsJSONNumberTakesOneMinus': WHATEVER THE INPUT: true; the input reads as it did. -/
def fnIsJSONNumberTakesOneMinusSpec : ChangeSpec := { name := "fnIsJSONNumberTakesOneMinus", fn := fun _ => fun
  | [d] => { results := [.lit (.bool true)], args := [d] }
  | _ => none }
def fnIsJSONNumberTakesOneMinusRow : OpenClaim := { program := "qxb6602305a", sum := "6158843e9e965cb6eb3f0774a8c371920912e0c8ee0d348a7e539407cea597f8", func := "example.com/bailiff/bailiff/zzlaws_root_b1.FnIsJSONNumberTakesOneMinus", spec := "fnIsJSONNumberTakesOneMinus", unfollowed := true, recurses := true, apart := false }
def FnIsJSONNumberTakesOneMinusSaid : Prop := fnIsJSONNumberTakesOneMinusRow.holds Try.pinned (OpenSpec.ofChange fnIsJSONNumberTakesOneMinusSpec)

/-- ITS FALSE NEIGHBOUR: 'it returns false'. Refute it at one input. -/
def fnIsJSONNumberTakesOneMinusWrong : ChangeSpec := { name := "fnIsJSONNumberTakesOneMinus", fn := fun _ => fun
  | [d] => { results := [.lit (.bool false)], args := [d] }
  | _ => none }
def FnIsJSONNumberTakesOneMinusWrongFalsely : Prop := fnIsJSONNumberTakesOneMinusRow.holds Try.pinned (OpenSpec.ofChange fnIsJSONNumberTakesOneMinusWrong)

/-- 'zzlaws_root_b1.FnFitsFormSplitsAtEveryCut': WHATEVER THE INPUT: true; the input reads as it did. -/
def fnFitsFormSplitsAtEveryCutSpec : ChangeSpec := { name := "fnFitsFormSplitsAtEveryCut", fn := fun _ => fun
  | [d1, d2, d3, d4] => { results := [.lit (.bool true)], args := [d1, d2, d3, d4] }
  | _ => none }
def fnFitsFormSplitsAtEveryCutRow : OpenClaim := { program := "qxb6602305a", sum := "6158843e9e965cb6eb3f0774a8c371920912e0c8ee0d348a7e539407cea597f8", func := "example.com/bailiff/bailiff/zzlaws_root_b1.FnFitsFormSplitsAtEveryCut", spec := "fnFitsFormSplitsAtEveryCut", apart := false }
def FnFitsFormSplitsAtEveryCutSaid : Prop := fnFitsFormSplitsAtEveryCutRow.holds Try.pinned (OpenSpec.ofChange fnFitsFormSplitsAtEveryCutSpec)

/-- ITS FALSE NEIGHBOUR: 'it returns false'. Refute it at one input. -/
def fnFitsFormSplitsAtEveryCutWrong : ChangeSpec := { name := "fnFitsFormSplitsAtEveryCut", fn := fun _ => fun
  | [d1, d2, d3, d4] => { results := [.lit (.bool false)], args := [d1, d2, d3, d4] }
  | _ => none }
def FnFitsFormSplitsAtEveryCutWrongFalsely : Prop := fnFitsFormSplitsAtEveryCutRow.holds Try.pinned (OpenSpec.ofChange fnFitsFormSplitsAtEveryCutWrong)

/-- 'zzlaws_root_b1.FnPositionSetAddMatchesMerge': WHATEVER THE INPUT: true; the input reads as it did. -/
def fnPositionSetAddMatchesMergeSpec : ChangeSpec := { name := "fnPositionSetAddMatchesMerge", fn := fun _ => fun
  | [d1, d2, d3] => { results := [.lit (.bool true)], args := [d1, d2, d3] }
  | _ => none }
def fnPositionSetAddMatchesMergeRow : OpenClaim := { program := "qxb6602305a", sum := "6158843e9e965cb6eb3f0774a8c371920912e0c8ee0d348a7e539407cea597f8", func := "example.com/bailiff/bailiff/zzlaws_root_b1.FnPositionSetAddMatchesMerge", spec := "fnPositionSetAddMatchesMerge", inPlace := ["slices.overlaps[int32]", "slices.overlaps[uint64]"], apart := false }
def FnPositionSetAddMatchesMergeSaid : Prop := fnPositionSetAddMatchesMergeRow.holds Try.pinned (OpenSpec.ofChange fnPositionSetAddMatchesMergeSpec)

/-- ITS FALSE NEIGHBOUR: 'it returns false'. Refute it at one input. -/
def fnPositionSetAddMatchesMergeWrong : ChangeSpec := { name := "fnPositionSetAddMatchesMerge", fn := fun _ => fun
  | [d1, d2, d3] => { results := [.lit (.bool false)], args := [d1, d2, d3] }
  | _ => none }
def FnPositionSetAddMatchesMergeWrongFalsely : Prop := fnPositionSetAddMatchesMergeRow.holds Try.pinned (OpenSpec.ofChange fnPositionSetAddMatchesMergeWrong)

/-- 'zzlaws_root_b1.FnPositionSetAddOrderFreeAndExact': WHATEVER THE INPUT: true; the input reads as it did. -/
def fnPositionSetAddOrderFreeAndExactSpec : ChangeSpec := { name := "fnPositionSetAddOrderFreeAndExact", fn := fun _ => fun
  | [d] => { results := [.lit (.bool true)], args := [d] }
  | _ => none }
def fnPositionSetAddOrderFreeAndExactRow : OpenClaim := { program := "qxb6602305a", sum := "6158843e9e965cb6eb3f0774a8c371920912e0c8ee0d348a7e539407cea597f8", func := "example.com/bailiff/bailiff/zzlaws_root_b1.FnPositionSetAddOrderFreeAndExact", spec := "fnPositionSetAddOrderFreeAndExact", inPlace := ["slices.overlaps[int32]", "slices.overlaps[uint64]"], apart := false }
def FnPositionSetAddOrderFreeAndExactSaid : Prop := fnPositionSetAddOrderFreeAndExactRow.holds Try.pinned (OpenSpec.ofChange fnPositionSetAddOrderFreeAndExactSpec)

/-- ITS FALSE NEIGHBOUR: 'it returns false'. Refute it at one input. -/
def fnPositionSetAddOrderFreeAndExactWrong : ChangeSpec := { name := "fnPositionSetAddOrderFreeAndExact", fn := fun _ => fun
  | [d] => { results := [.lit (.bool false)], args := [d] }
  | _ => none }
def FnPositionSetAddOrderFreeAndExactWrongFalsely : Prop := fnPositionSetAddOrderFreeAndExactRow.holds Try.pinned (OpenSpec.ofChange fnPositionSetAddOrderFreeAndExactWrong)

end Rows
end Go.Proofs.Qxb6602305a

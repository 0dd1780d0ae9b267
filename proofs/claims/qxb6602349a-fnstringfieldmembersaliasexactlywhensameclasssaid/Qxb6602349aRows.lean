/-
  No cell of these rows narrows 'for every input' (looked for: loops, veiled, ifaces, maps, wideKeys, modest, calm, conditions, laid).
  DERIVED. THE GIVEN ROWS OF THIS SEAT. 6 by the template 'for every input the law returns true; each argument reads behind the call as it read before'; 0 by the template 'total and deterministic' (their statements: Qxb6602349aTotals.lean).
  GIVEN WITH THE SEED: the statements are not yours to turn. If you find one false, say at which input.
  Laid BY PROGRAM, IN A SANDBOX (cutbox-rows.mjs): the forced cells as the released guide's own fill.sh prints them over the translation 77edbc63c7c4d383… (all of the seat's roots in one cut). By AI agents, Wed Nov 11 2026. No macro, syntax, notation, axiom, sorry.
-/
import Derived.Test.Qxb6602349aChecked
import GoSem.Claim
import GoSem.ClaimJoined
import GoSem.ClaimMapViews
import Derived.JoinedTies
import Derived.KernelRfl
namespace Go.Proofs.Qxb6602349a
/- THE CELL 'sum', in the pinned program and in every row, IS THE sha256 OF THE DUMP (.gsa) THAT Qxb6602349aProg.lean LOADS. Nothing in Lean hashes anything: it is a label: what it is worth is what the hold of that sum in a sandbox is worth. -/
noncomputable def Try.pinned : Pinned := { name := "qxb6602349a", sum := "77edbc63c7c4d383b31f41857ac82ee9ebfe6b6495f31d8029d419a47cdf39dc", checked := Try.checked }
namespace Rows
def none {H : Type} : Left H := { results := [], args := [] }

/-- 'zzlaws_pkg_lapi_b1.FnScanIntMatchesPositionalModel': WHATEVER THE INPUT: true; the input reads as it did. -/
def fnScanIntMatchesPositionalModelSpec : ChangeSpec := { name := "fnScanIntMatchesPositionalModel", fn := fun _ => fun
  | [d1, d2] => { results := [.lit (.bool true)], args := [d1, d2] }
  | _ => none }
def fnScanIntMatchesPositionalModelRow : OpenClaim := { program := "qxb6602349a", sum := "77edbc63c7c4d383b31f41857ac82ee9ebfe6b6495f31d8029d419a47cdf39dc", func := "example.com/remediation/remediation/zzlaws_pkg_lapi_b1.FnScanIntMatchesPositionalModel", spec := "fnScanIntMatchesPositionalModel", apart := false }
def FnScanIntMatchesPositionalModelSaid : Prop := fnScanIntMatchesPositionalModelRow.holds Try.pinned (OpenSpec.ofChange fnScanIntMatchesPositionalModelSpec)

/-- ITS FALSE NEIGHBOUR: 'it returns false'. Refute it at one input. -/
def fnScanIntMatchesPositionalModelWrong : ChangeSpec := { name := "fnScanIntMatchesPositionalModel", fn := fun _ => fun
  | [d1, d2] => { results := [.lit (.bool false)], args := [d1, d2] }
  | _ => none }
def FnScanIntMatchesPositionalModelWrongFalsely : Prop := fnScanIntMatchesPositionalModelRow.holds Try.pinned (OpenSpec.ofChange fnScanIntMatchesPositionalModelWrong)

/-- 'zzlaws_pkg_lapi_b1.FnScanIntReadsBackItsDecimal': WHATEVER THE INPUT: true; the input reads as it did. -/
def fnScanIntReadsBackItsDecimalSpec : ChangeSpec := { name := "fnScanIntReadsBackItsDecimal", fn := fun _ => fun
  | [d1, d2, d3] => { results := [.lit (.bool true)], args := [d1, d2, d3] }
  | _ => none }
def fnScanIntReadsBackItsDecimalRow : OpenClaim := { program := "qxb6602349a", sum := "77edbc63c7c4d383b31f41857ac82ee9ebfe6b6495f31d8029d419a47cdf39dc", func := "example.com/remediation/remediation/zzlaws_pkg_lapi_b1.FnScanIntReadsBackItsDecimal", spec := "fnScanIntReadsBackItsDecimal", apart := false }
def FnScanIntReadsBackItsDecimalSaid : Prop := fnScanIntReadsBackItsDecimalRow.holds Try.pinned (OpenSpec.ofChange fnScanIntReadsBackItsDecimalSpec)

/-- ITS FALSE NEIGHBOUR: 'it returns false'. Refute it at one input. -/
def fnScanIntReadsBackItsDecimalWrong : ChangeSpec := { name := "fnScanIntReadsBackItsDecimal", fn := fun _ => fun
  | [d1, d2, d3] => { results := [.lit (.bool false)], args := [d1, d2, d3] }
  | _ => none }
def FnScanIntReadsBackItsDecimalWrongFalsely : Prop := fnScanIntReadsBackItsDecimalRow.holds Try.pinned (OpenSpec.ofChange fnScanIntReadsBackItsDecimalWrong)

/-- 'zzlaws_pkg_lapi_b1.FnScanNumberMatchesAutomaton': WHATEVER THE INPUT: true; the input reads as it did. -/
def fnScanNumberMatchesAutomatonSpec : ChangeSpec := { name := "fnScanNumberMatchesAutomaton", fn := fun _ => fun
  | [d1, d2] => { results := [.lit (.bool true)], args := [d1, d2] }
  | _ => none }
def fnScanNumberMatchesAutomatonRow : OpenClaim := { program := "qxb6602349a", sum := "77edbc63c7c4d383b31f41857ac82ee9ebfe6b6495f31d8029d419a47cdf39dc", func := "example.com/remediation/remediation/zzlaws_pkg_lapi_b1.FnScanNumberMatchesAutomaton", spec := "fnScanNumberMatchesAutomaton", apart := false }
def FnScanNumberMatchesAutomatonSaid : Prop := fnScanNumberMatchesAutomatonRow.holds Try.pinned (OpenSpec.ofChange fnScanNumberMatchesAutomatonSpec)

/-- ITS FALSE NEIGHBOUR: 'it returns false'. Refute it at one input. -/
def fnScanNumberMatchesAutomatonWrong : ChangeSpec := { name := "fnScanNumberMatchesAutomaton", fn := fun _ => fun
  | [d1, d2] => { results := [.lit (.bool false)], args := [d1, d2] }
  | _ => none }
def FnScanNumberMatchesAutomatonWrongFalsely : Prop := fnScanNumberMatchesAutomatonRow.holds Try.pinned (OpenSpec.ofChange fnScanNumberMatchesAutomatonWrong)

/-- 'zzlaws_pkg_lapi_b1.FnScanNumberEndIsDecidedByOneByte': WHATEVER THE INPUT: true; the input reads as it did. -/
def fnScanNumberEndIsDecidedByOneByteSpec : ChangeSpec := { name := "fnScanNumberEndIsDecidedByOneByte", fn := fun _ => fun
  | [d1, d2] => { results := [.lit (.bool true)], args := [d1, d2] }
  | _ => none }
def fnScanNumberEndIsDecidedByOneByteRow : OpenClaim := { program := "qxb6602349a", sum := "77edbc63c7c4d383b31f41857ac82ee9ebfe6b6495f31d8029d419a47cdf39dc", func := "example.com/remediation/remediation/zzlaws_pkg_lapi_b1.FnScanNumberEndIsDecidedByOneByte", spec := "fnScanNumberEndIsDecidedByOneByte", apart := false }
def FnScanNumberEndIsDecidedByOneByteSaid : Prop := fnScanNumberEndIsDecidedByOneByteRow.holds Try.pinned (OpenSpec.ofChange fnScanNumberEndIsDecidedByOneByteSpec)

/-- ITS FALSE NEIGHBOUR: 'it returns false'. Refute it at one input. -/
def fnScanNumberEndIsDecidedByOneByteWrong : ChangeSpec := { name := "fnScanNumberEndIsDecidedByOneByte", fn := fun _ => fun
  | [d1, d2] => { results := [.lit (.bool false)], args := [d1, d2] }
  | _ => none }
def FnScanNumberEndIsDecidedByOneByteWrongFalsely : Prop := fnScanNumberEndIsDecidedByOneByteRow.holds Try.pinned (OpenSpec.ofChange fnScanNumberEndIsDecidedByOneByteWrong)

/-- 'zzlaws_pkg_lapi_b1.FnScanNumberAgreesWithScanIntOnIntegers': WHATEVER THE INPUT: true; the input reads as it did. -/
def fnScanNumberAgreesWithScanIntOnIntegersSpec : ChangeSpec := { name := "fnScanNumberAgreesWithScanIntOnIntegers", fn := fun _ => fun
  | [d1, d2] => { results := [.lit (.bool true)], args := [d1, d2] }
  | _ => none }
def fnScanNumberAgreesWithScanIntOnIntegersRow : OpenClaim := { program := "qxb6602349a", sum := "77edbc63c7c4d383b31f41857ac82ee9ebfe6b6495f31d8029d419a47cdf39dc", func := "example.com/remediation/remediation/zzlaws_pkg_lapi_b1.FnScanNumberAgreesWithScanIntOnIntegers", spec := "fnScanNumberAgreesWithScanIntOnIntegers", apart := false }
def FnScanNumberAgreesWithScanIntOnIntegersSaid : Prop := fnScanNumberAgreesWithScanIntOnIntegersRow.holds Try.pinned (OpenSpec.ofChange fnScanNumberAgreesWithScanIntOnIntegersSpec)

/-- ITS FALSE NEIGHBOUR: 'it returns false'. Refute it at one input. -/
def fnScanNumberAgreesWithScanIntOnIntegersWrong : ChangeSpec := { name := "fnScanNumberAgreesWithScanIntOnIntegers", fn := fun _ => fun
  | [d1, d2] => { results := [.lit (.bool false)], args := [d1, d2] }
  | _ => none }
def FnScanNumberAgreesWithScanIntOnIntegersWrongFalsely : Prop := fnScanNumberAgreesWithScanIntOnIntegersRow.holds Try.pinned (OpenSpec.ofChange fnScanNumberAgreesWithScanIntOnIntegersWrong)

/-- 'zzlaws_pkg_lapi_b1.FnStringFieldMembersAliasExactlyWhenSameClass': WHATEVER THE INPUT: true; the input reads as it did. -/
def fnStringFieldMembersAliasExactlyWhenSameClassSpec : ChangeSpec := { name := "fnStringFieldMembersAliasExactlyWhenSameClass", fn := fun _ => fun
  | [d1, d2] => { results := [.lit (.bool true)], args := [d1, d2] }
  | _ => none }
def fnStringFieldMembersAliasExactlyWhenSameClassRow : OpenClaim := { program := "qxb6602349a", sum := "77edbc63c7c4d383b31f41857ac82ee9ebfe6b6495f31d8029d419a47cdf39dc", func := "example.com/remediation/remediation/zzlaws_pkg_lapi_b1.FnStringFieldMembersAliasExactlyWhenSameClass", spec := "fnStringFieldMembersAliasExactlyWhenSameClass", apart := false }
def FnStringFieldMembersAliasExactlyWhenSameClassSaid : Prop := fnStringFieldMembersAliasExactlyWhenSameClassRow.holds Try.pinned (OpenSpec.ofChange fnStringFieldMembersAliasExactlyWhenSameClassSpec)

/-- ITS FALSE NEIGHBOUR: 'it returns false'. Refute it at one input. -/
def fnStringFieldMembersAliasExactlyWhenSameClassWrong : ChangeSpec := { name := "fnStringFieldMembersAliasExactlyWhenSameClass", fn := fun _ => fun
  | [d1, d2] => { results := [.lit (.bool false)], args := [d1, d2] }
  | _ => none }
def FnStringFieldMembersAliasExactlyWhenSameClassWrongFalsely : Prop := fnStringFieldMembersAliasExactlyWhenSameClassRow.holds Try.pinned (OpenSpec.ofChange fnStringFieldMembersAliasExactlyWhenSameClassWrong)

end Rows
end Go.Proofs.Qxb6602349a

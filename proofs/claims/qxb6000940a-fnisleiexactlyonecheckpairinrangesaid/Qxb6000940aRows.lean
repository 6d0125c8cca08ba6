/-
  No cell of these rows narrows 'for every input' (looked for: loops, veiled, ifaces, maps, wideKeys, modest, calm, conditions, laid).
  DERIVED. THE GIVEN ROWS OF THIS SEAT. 6 by the template 'for every input the law returns true; each argument reads behind the call as it read before'; 0 by the template 'total and deterministic' (their statements: Qxb6000940aTotals.lean).
  GIVEN WITH THE SEED: the statements are not yours to turn. If you find one false, say at which input.
  Laid BY PROGRAM, IN A SANDBOX (cutbox-rows.mjs): the forced cells as the released guide's own fill.sh prints them over the translation 096430364ef8cd0a… (all of the seat's roots in one cut). By AI agents, Wed Nov 11 2026. No macro, syntax, notation, axiom, sorry.
-/
import Derived.Test.Qxb6000940aChecked
import GoSem.Claim
import GoSem.ClaimJoined
import GoSem.ClaimMapViews
import Derived.JoinedTies
import Derived.KernelRfl
namespace Go.Proofs.Qxb6000940a
/- THE CELL 'sum', in the pinned program and in every row, IS THE sha256 OF THE DUMP (.gsa) THAT Qxb6000940aProg.lean LOADS. Nothing in Lean hashes anything: it is a label: what it is worth is what the hold of that sum in a sandbox is worth. -/
noncomputable def Try.pinned : Pinned := { name := "qxb6000940a", sum := "096430364ef8cd0aa934e94297446eb1d24dbad31b05c2a4dabc0874bb5d767f", checked := Try.checked }
namespace Rows
def none {H : Type} : Left H := { results := [], args := [] }

/-- 'zzlaws_nport_b1.FnIsLEIExactlyOneCheckPairInRange': WHATEVER THE INPUT: true; the input reads as it did. -/
def fnIsLEIExactlyOneCheckPairInRangeSpec : ChangeSpec := { name := "fnIsLEIExactlyOneCheckPairInRange", fn := fun _ => fun
  | [d] => { results := [.lit (.bool true)], args := [d] }
  | _ => none }
def fnIsLEIExactlyOneCheckPairInRangeRow : OpenClaim := { program := "qxb6000940a", sum := "096430364ef8cd0aa934e94297446eb1d24dbad31b05c2a4dabc0874bb5d767f", func := "example.com/tuoguan/tuoguan/zzlaws_nport_b1.FnIsLEIExactlyOneCheckPairInRange", spec := "fnIsLEIExactlyOneCheckPairInRange", apart := false }
def FnIsLEIExactlyOneCheckPairInRangeSaid : Prop := fnIsLEIExactlyOneCheckPairInRangeRow.holds Try.pinned (OpenSpec.ofChange fnIsLEIExactlyOneCheckPairInRangeSpec)

/-- ITS FALSE NEIGHBOUR: 'it returns false'. Refute it at one input. -/
def fnIsLEIExactlyOneCheckPairInRangeWrong : ChangeSpec := { name := "fnIsLEIExactlyOneCheckPairInRange", fn := fun _ => fun
  | [d] => { results := [.lit (.bool false)], args := [d] }
  | _ => none }
def FnIsLEIExactlyOneCheckPairInRangeWrongFalsely : Prop := fnIsLEIExactlyOneCheckPairInRangeRow.holds Try.pinned (OpenSpec.ofChange fnIsLEIExactlyOneCheckPairInRangeWrong)

/-- 'zzlaws_nport_b1.FnIsLEIRefusesOneSubstitution': WHATEVER THE INPUT: true; the input reads as it did. -/
def fnIsLEIRefusesOneSubstitutionSpec : ChangeSpec := { name := "fnIsLEIRefusesOneSubstitution", fn := fun _ => fun
  | [d1, d2, d3] => { results := [.lit (.bool true)], args := [d1, d2, d3] }
  | _ => none }
def fnIsLEIRefusesOneSubstitutionRow : OpenClaim := { program := "qxb6000940a", sum := "096430364ef8cd0aa934e94297446eb1d24dbad31b05c2a4dabc0874bb5d767f", func := "example.com/tuoguan/tuoguan/zzlaws_nport_b1.FnIsLEIRefusesOneSubstitution", spec := "fnIsLEIRefusesOneSubstitution", apart := false }
def FnIsLEIRefusesOneSubstitutionSaid : Prop := fnIsLEIRefusesOneSubstitutionRow.holds Try.pinned (OpenSpec.ofChange fnIsLEIRefusesOneSubstitutionSpec)

/-- ITS FALSE NEIGHBOUR: 'it returns false'. Refute it at one input. -/
def fnIsLEIRefusesOneSubstitutionWrong : ChangeSpec := { name := "fnIsLEIRefusesOneSubstitution", fn := fun _ => fun
  | [d1, d2, d3] => { results := [.lit (.bool false)], args := [d1, d2, d3] }
  | _ => none }
def FnIsLEIRefusesOneSubstitutionWrongFalsely : Prop := fnIsLEIRefusesOneSubstitutionRow.holds Try.pinned (OpenSpec.ofChange fnIsLEIRefusesOneSubstitutionWrong)

/-- 'zzlaws_nport_b1.FnIsLEIRefusesAdjacentSwap': WHATEVER THE INPUT: true; the input reads as it did. -/
def fnIsLEIRefusesAdjacentSwapSpec : ChangeSpec := { name := "fnIsLEIRefusesAdjacentSwap", fn := fun _ => fun
  | [d1, d2] => { results := [.lit (.bool true)], args := [d1, d2] }
  | _ => none }
def fnIsLEIRefusesAdjacentSwapRow : OpenClaim := { program := "qxb6000940a", sum := "096430364ef8cd0aa934e94297446eb1d24dbad31b05c2a4dabc0874bb5d767f", func := "example.com/tuoguan/tuoguan/zzlaws_nport_b1.FnIsLEIRefusesAdjacentSwap", spec := "fnIsLEIRefusesAdjacentSwap", apart := false }
def FnIsLEIRefusesAdjacentSwapSaid : Prop := fnIsLEIRefusesAdjacentSwapRow.holds Try.pinned (OpenSpec.ofChange fnIsLEIRefusesAdjacentSwapSpec)

/-- ITS FALSE NEIGHBOUR: 'it returns false'. Refute it at one input. -/
def fnIsLEIRefusesAdjacentSwapWrong : ChangeSpec := { name := "fnIsLEIRefusesAdjacentSwap", fn := fun _ => fun
  | [d1, d2] => { results := [.lit (.bool false)], args := [d1, d2] }
  | _ => none }
def FnIsLEIRefusesAdjacentSwapWrongFalsely : Prop := fnIsLEIRefusesAdjacentSwapRow.holds Try.pinned (OpenSpec.ofChange fnIsLEIRefusesAdjacentSwapWrong)

/-- 'zzlaws_nport_b1.FnDecimalPlacesCountsDigitsAfterFirstPoint': WHATEVER THE INPUT: true; the input reads as it did. -/
def fnDecimalPlacesCountsDigitsAfterFirstPointSpec : ChangeSpec := { name := "fnDecimalPlacesCountsDigitsAfterFirstPoint", fn := fun _ => fun
  | [d1, d2] => { results := [.lit (.bool true)], args := [d1, d2] }
  | _ => none }
def fnDecimalPlacesCountsDigitsAfterFirstPointRow : OpenClaim := { program := "qxb6000940a", sum := "096430364ef8cd0aa934e94297446eb1d24dbad31b05c2a4dabc0874bb5d767f", func := "example.com/tuoguan/tuoguan/zzlaws_nport_b1.FnDecimalPlacesCountsDigitsAfterFirstPoint", spec := "fnDecimalPlacesCountsDigitsAfterFirstPoint", apart := false }
def FnDecimalPlacesCountsDigitsAfterFirstPointSaid : Prop := fnDecimalPlacesCountsDigitsAfterFirstPointRow.holds Try.pinned (OpenSpec.ofChange fnDecimalPlacesCountsDigitsAfterFirstPointSpec)

/-- ITS FALSE NEIGHBOUR: 'it returns false'. Refute it at one input. -/
def fnDecimalPlacesCountsDigitsAfterFirstPointWrong : ChangeSpec := { name := "fnDecimalPlacesCountsDigitsAfterFirstPoint", fn := fun _ => fun
  | [d1, d2] => { results := [.lit (.bool false)], args := [d1, d2] }
  | _ => none }
def FnDecimalPlacesCountsDigitsAfterFirstPointWrongFalsely : Prop := fnDecimalPlacesCountsDigitsAfterFirstPointRow.holds Try.pinned (OpenSpec.ofChange fnDecimalPlacesCountsDigitsAfterFirstPointWrong)

/-- 'zzlaws_nport_b1.FnDecimalPlacesIgnoresLeadingByte': WHATEVER THE INPUT: true; the input reads as it did. -/
def fnDecimalPlacesIgnoresLeadingByteSpec : ChangeSpec := { name := "fnDecimalPlacesIgnoresLeadingByte", fn := fun _ => fun
  | [d1, d2] => { results := [.lit (.bool true)], args := [d1, d2] }
  | _ => none }
def fnDecimalPlacesIgnoresLeadingByteRow : OpenClaim := { program := "qxb6000940a", sum := "096430364ef8cd0aa934e94297446eb1d24dbad31b05c2a4dabc0874bb5d767f", func := "example.com/tuoguan/tuoguan/zzlaws_nport_b1.FnDecimalPlacesIgnoresLeadingByte", spec := "fnDecimalPlacesIgnoresLeadingByte", apart := false }
def FnDecimalPlacesIgnoresLeadingByteSaid : Prop := fnDecimalPlacesIgnoresLeadingByteRow.holds Try.pinned (OpenSpec.ofChange fnDecimalPlacesIgnoresLeadingByteSpec)

/-- ITS FALSE NEIGHBOUR: 'it returns false'. Refute it at one input. -/
def fnDecimalPlacesIgnoresLeadingByteWrong : ChangeSpec := { name := "fnDecimalPlacesIgnoresLeadingByte", fn := fun _ => fun
  | [d1, d2] => { results := [.lit (.bool false)], args := [d1, d2] }
  | _ => none }
def FnDecimalPlacesIgnoresLeadingByteWrongFalsely : Prop := fnDecimalPlacesIgnoresLeadingByteRow.holds Try.pinned (OpenSpec.ofChange fnDecimalPlacesIgnoresLeadingByteWrong)

/-- 'zzlaws_nport_b1.FnDecimalPlacesAppendAddsAtMostOne': WHATEVER THE INPUT: true; the input reads as it did. -/
def fnDecimalPlacesAppendAddsAtMostOneSpec : ChangeSpec := { name := "fnDecimalPlacesAppendAddsAtMostOne", fn := fun _ => fun
  | [d1, d2] => { results := [.lit (.bool true)], args := [d1, d2] }
  | _ => none }
def fnDecimalPlacesAppendAddsAtMostOneRow : OpenClaim := { program := "qxb6000940a", sum := "096430364ef8cd0aa934e94297446eb1d24dbad31b05c2a4dabc0874bb5d767f", func := "example.com/tuoguan/tuoguan/zzlaws_nport_b1.FnDecimalPlacesAppendAddsAtMostOne", spec := "fnDecimalPlacesAppendAddsAtMostOne", apart := false }
def FnDecimalPlacesAppendAddsAtMostOneSaid : Prop := fnDecimalPlacesAppendAddsAtMostOneRow.holds Try.pinned (OpenSpec.ofChange fnDecimalPlacesAppendAddsAtMostOneSpec)

/-- ITS FALSE NEIGHBOUR: 'it returns false'. Refute it at one input. -/
def fnDecimalPlacesAppendAddsAtMostOneWrong : ChangeSpec := { name := "fnDecimalPlacesAppendAddsAtMostOne", fn := fun _ => fun
  | [d1, d2] => { results := [.lit (.bool false)], args := [d1, d2] }
  | _ => none }
def FnDecimalPlacesAppendAddsAtMostOneWrongFalsely : Prop := fnDecimalPlacesAppendAddsAtMostOneRow.holds Try.pinned (OpenSpec.ofChange fnDecimalPlacesAppendAddsAtMostOneWrong)

end Rows
end Go.Proofs.Qxb6000940a

/-
  No cell of these rows narrows 'for every input' (looked for: loops, veiled, ifaces, maps, wideKeys, modest, calm, conditions, laid).
  DERIVED. THE GIVEN ROWS OF THIS SEAT. 6 by the template 'for every input the law returns true; each argument reads behind the call as it read before'; 0 by the template 'total and deterministic' (their statements: Qxb6000098aTotals.lean).
  GIVEN WITH THE SEED: the statements are not yours to turn. If you find one false, say at which input.
  Laid BY PROGRAM, IN A SANDBOX (cutbox-rows.mjs): the forced cells as the released guide's own fill.sh prints them over the translation 6c8283bd02db411c… (all of the seat's roots in one cut). By AI agents, Wed Nov 11 2026. No macro, syntax, notation, axiom, sorry.
-/
import Derived.Test.Qxb6000098aChecked
import GoSem.Claim
import GoSem.ClaimJoined
import GoSem.ClaimMapViews
import Derived.JoinedTies
import Derived.KernelRfl
namespace Go.Proofs.Qxb6000098a
/- THE CELL 'sum', in the pinned program and in every row, IS THE sha256 OF THE DUMP (.gsa) THAT Qxb6000098aProg.lean LOADS. Nothing in Lean hashes anything: it is a label: what it is worth is what the hold of that sum in a sandbox is worth. -/
noncomputable def Try.pinned : Pinned := { name := "qxb6000098a", sum := "6c8283bd02db411ccc527a04b037bda9d495eccb89086bc324d2bed2bc57d06a", checked := Try.checked }
namespace Rows
def none {H : Type} : Left H := { results := [], args := [] }

/-- 'zzlaws_root_b1.FnSerialOrderPlacesEachPositionByRank': WHATEVER THE INPUT: true; the input reads as it did. -/
def fnSerialOrderPlacesEachPositionByRankSpec : ChangeSpec := { name := "fnSerialOrderPlacesEachPositionByRank", fn := fun _ => fun
  | [d1, d2] => { results := [.lit (.bool true)], args := [d1, d2] }
  | _ => none }
def fnSerialOrderPlacesEachPositionByRankRow : OpenClaim := { program := "qxb6000098a", sum := "6c8283bd02db411ccc527a04b037bda9d495eccb89086bc324d2bed2bc57d06a", func := "example.com/interlace/interlace/zzlaws_root_b1.FnSerialOrderPlacesEachPositionByRank", spec := "fnSerialOrderPlacesEachPositionByRank", apart := false }
def FnSerialOrderPlacesEachPositionByRankSaid : Prop := fnSerialOrderPlacesEachPositionByRankRow.holds Try.pinned (OpenSpec.ofChange fnSerialOrderPlacesEachPositionByRankSpec)

/-- ITS FALSE NEIGHBOUR: 'it returns false'. Refute it at one input. -/
def fnSerialOrderPlacesEachPositionByRankWrong : ChangeSpec := { name := "fnSerialOrderPlacesEachPositionByRank", fn := fun _ => fun
  | [d1, d2] => { results := [.lit (.bool false)], args := [d1, d2] }
  | _ => none }
def FnSerialOrderPlacesEachPositionByRankWrongFalsely : Prop := fnSerialOrderPlacesEachPositionByRankRow.holds Try.pinned (OpenSpec.ofChange fnSerialOrderPlacesEachPositionByRankWrong)

/-- 'zzlaws_root_b1.FnSerialOrderAppendsAfterWhatItIsGiven': WHATEVER THE INPUT: true; the input reads as it did. -/
def fnSerialOrderAppendsAfterWhatItIsGivenSpec : ChangeSpec := { name := "fnSerialOrderAppendsAfterWhatItIsGiven", fn := fun _ => fun
  | [d1, d2] => { results := [.lit (.bool true)], args := [d1, d2] }
  | _ => none }
def fnSerialOrderAppendsAfterWhatItIsGivenRow : OpenClaim := { program := "qxb6000098a", sum := "6c8283bd02db411ccc527a04b037bda9d495eccb89086bc324d2bed2bc57d06a", func := "example.com/interlace/interlace/zzlaws_root_b1.FnSerialOrderAppendsAfterWhatItIsGiven", spec := "fnSerialOrderAppendsAfterWhatItIsGiven", apart := false }
def FnSerialOrderAppendsAfterWhatItIsGivenSaid : Prop := fnSerialOrderAppendsAfterWhatItIsGivenRow.holds Try.pinned (OpenSpec.ofChange fnSerialOrderAppendsAfterWhatItIsGivenSpec)

/-- ITS FALSE NEIGHBOUR: 'it returns false'. Refute it at one input. -/
def fnSerialOrderAppendsAfterWhatItIsGivenWrong : ChangeSpec := { name := "fnSerialOrderAppendsAfterWhatItIsGiven", fn := fun _ => fun
  | [d1, d2] => { results := [.lit (.bool false)], args := [d1, d2] }
  | _ => none }
def FnSerialOrderAppendsAfterWhatItIsGivenWrongFalsely : Prop := fnSerialOrderAppendsAfterWhatItIsGivenRow.holds Try.pinned (OpenSpec.ofChange fnSerialOrderAppendsAfterWhatItIsGivenWrong)

/-- 'zzlaws_root_b1.FnCloneCallsCopiesEveryField': WHATEVER THE INPUT: true; the input reads as it did. -/
def fnCloneCallsCopiesEveryFieldSpec : ChangeSpec := { name := "fnCloneCallsCopiesEveryField", fn := fun _ => fun
  | [d1, d2, d3] => { results := [.lit (.bool true)], args := [d1, d2, d3] }
  | _ => none }
def fnCloneCallsCopiesEveryFieldRow : OpenClaim := { program := "qxb6000098a", sum := "6c8283bd02db411ccc527a04b037bda9d495eccb89086bc324d2bed2bc57d06a", func := "example.com/interlace/interlace/zzlaws_root_b1.FnCloneCallsCopiesEveryField", spec := "fnCloneCallsCopiesEveryField", apart := false }
def FnCloneCallsCopiesEveryFieldSaid : Prop := fnCloneCallsCopiesEveryFieldRow.holds Try.pinned (OpenSpec.ofChange fnCloneCallsCopiesEveryFieldSpec)

/-- ITS FALSE NEIGHBOUR: 'it returns false'. Refute it at one input. -/
def fnCloneCallsCopiesEveryFieldWrong : ChangeSpec := { name := "fnCloneCallsCopiesEveryField", fn := fun _ => fun
  | [d1, d2, d3] => { results := [.lit (.bool false)], args := [d1, d2, d3] }
  | _ => none }
def FnCloneCallsCopiesEveryFieldWrongFalsely : Prop := fnCloneCallsCopiesEveryFieldRow.holds Try.pinned (OpenSpec.ofChange fnCloneCallsCopiesEveryFieldWrong)

/-- 'zzlaws_root_b1.FnCloneCallsSharesNoArgs': WHATEVER THE INPUT: true; the input reads as it did. -/
def fnCloneCallsSharesNoArgsSpec : ChangeSpec := { name := "fnCloneCallsSharesNoArgs", fn := fun _ => fun
  | [d1, d2, d3] => { results := [.lit (.bool true)], args := [d1, d2, d3] }
  | _ => none }
def fnCloneCallsSharesNoArgsRow : OpenClaim := { program := "qxb6000098a", sum := "6c8283bd02db411ccc527a04b037bda9d495eccb89086bc324d2bed2bc57d06a", func := "example.com/interlace/interlace/zzlaws_root_b1.FnCloneCallsSharesNoArgs", spec := "fnCloneCallsSharesNoArgs", apart := false }
def FnCloneCallsSharesNoArgsSaid : Prop := fnCloneCallsSharesNoArgsRow.holds Try.pinned (OpenSpec.ofChange fnCloneCallsSharesNoArgsSpec)

/-- ITS FALSE NEIGHBOUR: 'it returns false'. Refute it at one input. -/
def fnCloneCallsSharesNoArgsWrong : ChangeSpec := { name := "fnCloneCallsSharesNoArgs", fn := fun _ => fun
  | [d1, d2, d3] => { results := [.lit (.bool false)], args := [d1, d2, d3] }
  | _ => none }
def FnCloneCallsSharesNoArgsWrongFalsely : Prop := fnCloneCallsSharesNoArgsRow.holds Try.pinned (OpenSpec.ofChange fnCloneCallsSharesNoArgsWrong)

/-- 'zzlaws_root_b1.FnMakeRowDecodesBackExactly': WHATEVER THE INPUT: true; the input reads as it did. -/
def fnMakeRowDecodesBackExactlySpec : ChangeSpec := { name := "fnMakeRowDecodesBackExactly", fn := fun _ => fun
  | [d1, d2, d3, d4] => { results := [.lit (.bool true)], args := [d1, d2, d3, d4] }
  | _ => none }
def fnMakeRowDecodesBackExactlyRow : OpenClaim := { program := "qxb6000098a", sum := "6c8283bd02db411ccc527a04b037bda9d495eccb89086bc324d2bed2bc57d06a", func := "example.com/interlace/interlace/zzlaws_root_b1.FnMakeRowDecodesBackExactly", spec := "fnMakeRowDecodesBackExactly", inPlace := ["internal/abi.NoEscape", "internal/bytealg.MakeNoZero"], apart := false }
def FnMakeRowDecodesBackExactlySaid : Prop := fnMakeRowDecodesBackExactlyRow.holds Try.pinned (OpenSpec.ofChange fnMakeRowDecodesBackExactlySpec)

/-- ITS FALSE NEIGHBOUR: 'it returns false'. Refute it at one input. -/
def fnMakeRowDecodesBackExactlyWrong : ChangeSpec := { name := "fnMakeRowDecodesBackExactly", fn := fun _ => fun
  | [d1, d2, d3, d4] => { results := [.lit (.bool false)], args := [d1, d2, d3, d4] }
  | _ => none }
def FnMakeRowDecodesBackExactlyWrongFalsely : Prop := fnMakeRowDecodesBackExactlyRow.holds Try.pinned (OpenSpec.ofChange fnMakeRowDecodesBackExactlyWrong)

/-- 'zzlaws_root_b1.FnMakeRowSplitsAtAnyField': WHATEVER THE INPUT: true; the input reads as it did. -/
def fnMakeRowSplitsAtAnyFieldSpec : ChangeSpec := { name := "fnMakeRowSplitsAtAnyField", fn := fun _ => fun
  | [d1, d2, d3, d4, d5] => { results := [.lit (.bool true)], args := [d1, d2, d3, d4, d5] }
  | _ => none }
def fnMakeRowSplitsAtAnyFieldRow : OpenClaim := { program := "qxb6000098a", sum := "6c8283bd02db411ccc527a04b037bda9d495eccb89086bc324d2bed2bc57d06a", func := "example.com/interlace/interlace/zzlaws_root_b1.FnMakeRowSplitsAtAnyField", spec := "fnMakeRowSplitsAtAnyField", inPlace := ["internal/abi.NoEscape", "internal/bytealg.MakeNoZero"], apart := false }
def FnMakeRowSplitsAtAnyFieldSaid : Prop := fnMakeRowSplitsAtAnyFieldRow.holds Try.pinned (OpenSpec.ofChange fnMakeRowSplitsAtAnyFieldSpec)

/-- ITS FALSE NEIGHBOUR: 'it returns false'. Refute it at one input. -/
def fnMakeRowSplitsAtAnyFieldWrong : ChangeSpec := { name := "fnMakeRowSplitsAtAnyField", fn := fun _ => fun
  | [d1, d2, d3, d4, d5] => { results := [.lit (.bool false)], args := [d1, d2, d3, d4, d5] }
  | _ => none }
def FnMakeRowSplitsAtAnyFieldWrongFalsely : Prop := fnMakeRowSplitsAtAnyFieldRow.holds Try.pinned (OpenSpec.ofChange fnMakeRowSplitsAtAnyFieldWrong)

end Rows
end Go.Proofs.Qxb6000098a

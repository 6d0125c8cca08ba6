/-
  No cell of these rows narrows 'for every input' (looked for: loops, veiled, ifaces, maps, wideKeys, modest, calm, conditions, laid).
  DERIVED. THE GIVEN ROWS OF THIS SEAT. 5 by the template 'for every input the law returns true; each argument reads behind the call as it read before'; 0 by the template 'total and deterministic' (their statements: Qxb6000848aTotals.lean).
  GIVEN WITH THE SEED: the statements are not yours to turn. If you find one false, say at which input.
  Laid BY PROGRAM, IN A SANDBOX (cutbox-rows.mjs): the forced cells as the released guide's own fill.sh prints them over the translation 385c504b93f592dd… (all of the seat's roots in one cut). By AI agents, Wed Nov 11 2026. No macro, syntax, notation, axiom, sorry.
-/
import Derived.Test.Qxb6000848aChecked
import GoSem.Claim
import GoSem.ClaimJoined
import GoSem.ClaimMapViews
import Derived.JoinedTies
import Derived.KernelRfl
namespace Go.Proofs.Qxb6000848a
/- THE CELL 'sum', in the pinned program and in every row, IS THE sha256 OF THE DUMP (.gsa) THAT Qxb6000848aProg.lean LOADS. Nothing in Lean hashes anything: it is a label: what it is worth is what the hold of that sum in a sandbox is worth. -/
noncomputable def Try.pinned : Pinned := { name := "qxb6000848a", sum := "385c504b93f592dd9e44206e87bb22da52c3362297f6cfd32e7b2c73b0e6c5fc", checked := Try.checked }
namespace Rows
def none {H : Type} : Left H := { results := [], args := [] }

/-- 'zzlaws_internal_document_b1.FnIsNumberMatchesGrammarAutomaton': WHATEVER THE INPUT: true; the input reads as it did. -/
def fnIsNumberMatchesGrammarAutomatonSpec : ChangeSpec := { name := "fnIsNumberMatchesGrammarAutomaton", fn := fun _ => fun
  | [d] => { results := [.lit (.bool true)], args := [d] }
  | _ => none }
def fnIsNumberMatchesGrammarAutomatonRow : OpenClaim := { program := "qxb6000848a", sum := "385c504b93f592dd9e44206e87bb22da52c3362297f6cfd32e7b2c73b0e6c5fc", func := "example.com/portcullis/portcullis/zzlaws_internal_document_b1.FnIsNumberMatchesGrammarAutomaton", spec := "fnIsNumberMatchesGrammarAutomaton", apart := false }
def FnIsNumberMatchesGrammarAutomatonSaid : Prop := fnIsNumberMatchesGrammarAutomatonRow.holds Try.pinned (OpenSpec.ofChange fnIsNumberMatchesGrammarAutomatonSpec)

/-- ITS FALSE NEIGHBOUR: 'it returns false'. Refute it at one input. -/
def fnIsNumberMatchesGrammarAutomatonWrong : ChangeSpec := { name := "fnIsNumberMatchesGrammarAutomaton", fn := fun _ => fun
  | [d] => { results := [.lit (.bool false)], args := [d] }
  | _ => none }
def FnIsNumberMatchesGrammarAutomatonWrongFalsely : Prop := fnIsNumberMatchesGrammarAutomatonRow.holds Try.pinned (OpenSpec.ofChange fnIsNumberMatchesGrammarAutomatonWrong)

/-- 'zzlaws_internal_document_b1.FnIsNumberOneMinusSign': WHATEVER THE INPUT: true; the input reads as it did. -/
def fnIsNumberOneMinusSignSpec : ChangeSpec := { name := "fnIsNumberOneMinusSign", fn := fun _ => fun
  | [d] => { results := [.lit (.bool true)], args := [d] }
  | _ => none }
def fnIsNumberOneMinusSignRow : OpenClaim := { program := "qxb6000848a", sum := "385c504b93f592dd9e44206e87bb22da52c3362297f6cfd32e7b2c73b0e6c5fc", func := "example.com/portcullis/portcullis/zzlaws_internal_document_b1.FnIsNumberOneMinusSign", spec := "fnIsNumberOneMinusSign", apart := false }
def FnIsNumberOneMinusSignSaid : Prop := fnIsNumberOneMinusSignRow.holds Try.pinned (OpenSpec.ofChange fnIsNumberOneMinusSignSpec)

/-- ITS FALSE NEIGHBOUR: 'it returns false'. Refute it at one input. -/
def fnIsNumberOneMinusSignWrong : ChangeSpec := { name := "fnIsNumberOneMinusSign", fn := fun _ => fun
  | [d] => { results := [.lit (.bool false)], args := [d] }
  | _ => none }
def FnIsNumberOneMinusSignWrongFalsely : Prop := fnIsNumberOneMinusSignRow.holds Try.pinned (OpenSpec.ofChange fnIsNumberOneMinusSignWrong)

/-- 'zzlaws_internal_document_b1.FnIsNumberExponentSuffix': WHATEVER THE INPUT: true; the input reads as it did. -/
def fnIsNumberExponentSuffixSpec : ChangeSpec := { name := "fnIsNumberExponentSuffix", fn := fun _ => fun
  | [d1, d2, d3, d4] => { results := [.lit (.bool true)], args := [d1, d2, d3, d4] }
  | _ => none }
def fnIsNumberExponentSuffixRow : OpenClaim := { program := "qxb6000848a", sum := "385c504b93f592dd9e44206e87bb22da52c3362297f6cfd32e7b2c73b0e6c5fc", func := "example.com/portcullis/portcullis/zzlaws_internal_document_b1.FnIsNumberExponentSuffix", spec := "fnIsNumberExponentSuffix", apart := false }
def FnIsNumberExponentSuffixSaid : Prop := fnIsNumberExponentSuffixRow.holds Try.pinned (OpenSpec.ofChange fnIsNumberExponentSuffixSpec)

/-- ITS FALSE NEIGHBOUR: 'it returns false'. Refute it at one input. -/
def fnIsNumberExponentSuffixWrong : ChangeSpec := { name := "fnIsNumberExponentSuffix", fn := fun _ => fun
  | [d1, d2, d3, d4] => { results := [.lit (.bool false)], args := [d1, d2, d3, d4] }
  | _ => none }
def FnIsNumberExponentSuffixWrongFalsely : Prop := fnIsNumberExponentSuffixRow.holds Try.pinned (OpenSpec.ofChange fnIsNumberExponentSuffixWrong)

/-- 'zzlaws_internal_document_b1.FnHexRuneDecodesEncoding': WHATEVER THE INPUT: true; the input reads as it did. -/
def fnHexRuneDecodesEncodingSpec : ChangeSpec := { name := "fnHexRuneDecodesEncoding", fn := fun _ => fun
  | [d1, d2, d3] => { results := [.lit (.bool true)], args := [d1, d2, d3] }
  | _ => none }
def fnHexRuneDecodesEncodingRow : OpenClaim := { program := "qxb6000848a", sum := "385c504b93f592dd9e44206e87bb22da52c3362297f6cfd32e7b2c73b0e6c5fc", func := "example.com/portcullis/portcullis/zzlaws_internal_document_b1.FnHexRuneDecodesEncoding", spec := "fnHexRuneDecodesEncoding", apart := false }
def FnHexRuneDecodesEncodingSaid : Prop := fnHexRuneDecodesEncodingRow.holds Try.pinned (OpenSpec.ofChange fnHexRuneDecodesEncodingSpec)

/-- ITS FALSE NEIGHBOUR: 'it returns false'. Refute it at one input. -/
def fnHexRuneDecodesEncodingWrong : ChangeSpec := { name := "fnHexRuneDecodesEncoding", fn := fun _ => fun
  | [d1, d2, d3] => { results := [.lit (.bool false)], args := [d1, d2, d3] }
  | _ => none }
def FnHexRuneDecodesEncodingWrongFalsely : Prop := fnHexRuneDecodesEncodingRow.holds Try.pinned (OpenSpec.ofChange fnHexRuneDecodesEncodingWrong)

/-- 'zzlaws_internal_document_b1.FnHexRuneReencodes': WHATEVER THE INPUT: true; the input reads as it did. -/
def fnHexRuneReencodesSpec : ChangeSpec := { name := "fnHexRuneReencodes", fn := fun _ => fun
  | [d] => { results := [.lit (.bool true)], args := [d] }
  | _ => none }
def fnHexRuneReencodesRow : OpenClaim := { program := "qxb6000848a", sum := "385c504b93f592dd9e44206e87bb22da52c3362297f6cfd32e7b2c73b0e6c5fc", func := "example.com/portcullis/portcullis/zzlaws_internal_document_b1.FnHexRuneReencodes", spec := "fnHexRuneReencodes", apart := false }
def FnHexRuneReencodesSaid : Prop := fnHexRuneReencodesRow.holds Try.pinned (OpenSpec.ofChange fnHexRuneReencodesSpec)

/-- ITS FALSE NEIGHBOUR: 'it returns false'. Refute it at one input. -/
def fnHexRuneReencodesWrong : ChangeSpec := { name := "fnHexRuneReencodes", fn := fun _ => fun
  | [d] => { results := [.lit (.bool false)], args := [d] }
  | _ => none }
def FnHexRuneReencodesWrongFalsely : Prop := fnHexRuneReencodesRow.holds Try.pinned (OpenSpec.ofChange fnHexRuneReencodesWrong)

end Rows
end Go.Proofs.Qxb6000848a

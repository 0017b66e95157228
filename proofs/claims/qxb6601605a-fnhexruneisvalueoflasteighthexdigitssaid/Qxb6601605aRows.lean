/-
  No cell of these rows narrows 'for every input' (looked for: loops, veiled, ifaces, maps, wideKeys, modest, calm, conditions, laid).
  DERIVED. THE GIVEN ROWS OF THIS SEAT. 4 by the template 'for every input the law returns true; each argument reads behind the call as it read before'; 0 by the template 'total and deterministic' (their statements: Qxb6601605aTotals.lean).
  GIVEN WITH THE SEED: the statements are not yours to turn. If you find one false, say at which input.
  Laid BY PROGRAM, IN A SANDBOX (cutbox-rows.mjs): the forced cells as the released guide's own fill.sh prints them over the translation 9334ba4e3596284f… (all of the seat's roots in one cut). By AI agents, Wed Nov 11 2026. No macro, syntax, notation, axiom, sorry.
-/
import Derived.Test.Qxb6601605aChecked
import GoSem.Claim
import GoSem.ClaimJoined
import GoSem.ClaimMapViews
import Derived.JoinedTies
import Derived.KernelRfl
namespace Go.Proofs.Qxb6601605a
/- THE CELL 'sum', in the pinned program and in every row, IS THE sha256 OF THE DUMP (.gsa) THAT Qxb6601605aProg.lean LOADS. Nothing in Lean hashes anything: it is a label: what it is worth is what the hold of that sum in a sandbox is worth. -/
noncomputable def Try.pinned : Pinned := { name := "qxb6601605a", sum := "9334ba4e3596284f3c70e2cf4034c5fb8da592905f5a77362749380202229af6", checked := Try.checked }
namespace Rows
def none {H : Type} : Left H := { results := [], args := [] }

/-- 'zzlaws_internal_jsontext_b1.FnScanNumberMatchesGrammarAutomaton': WHATEVER THE INPUT: true; the input reads as it did. -/
def fnScanNumberMatchesGrammarAutomatonSpec : ChangeSpec := { name := "fnScanNumberMatchesGrammarAutomaton", fn := fun _ => fun
  | [d1, d2] => { results := [.lit (.bool true)], args := [d1, d2] }
  | _ => none }
def fnScanNumberMatchesGrammarAutomatonRow : OpenClaim := { program := "qxb6601605a", sum := "9334ba4e3596284f3c70e2cf4034c5fb8da592905f5a77362749380202229af6", func := "example.com/inlet/inlet/zzlaws_internal_jsontext_b1.FnScanNumberMatchesGrammarAutomaton", spec := "fnScanNumberMatchesGrammarAutomaton", apart := false }
def FnScanNumberMatchesGrammarAutomatonSaid : Prop := fnScanNumberMatchesGrammarAutomatonRow.holds Try.pinned (OpenSpec.ofChange fnScanNumberMatchesGrammarAutomatonSpec)

/-- ITS FALSE NEIGHBOUR: 'it returns false'. Refute it at one input. -/
def fnScanNumberMatchesGrammarAutomatonWrong : ChangeSpec := { name := "fnScanNumberMatchesGrammarAutomaton", fn := fun _ => fun
  | [d1, d2] => { results := [.lit (.bool false)], args := [d1, d2] }
  | _ => none }
def FnScanNumberMatchesGrammarAutomatonWrongFalsely : Prop := fnScanNumberMatchesGrammarAutomatonRow.holds Try.pinned (OpenSpec.ofChange fnScanNumberMatchesGrammarAutomatonWrong)

/-- 'zzlaws_internal_jsontext_b1.FnScanNumberDependsOnlyOnItsOwnText': WHATEVER THE INPUT: true; the input reads as it did. -/
def fnScanNumberDependsOnlyOnItsOwnTextSpec : ChangeSpec := { name := "fnScanNumberDependsOnlyOnItsOwnText", fn := fun _ => fun
  | [d1, d2] => { results := [.lit (.bool true)], args := [d1, d2] }
  | _ => none }
def fnScanNumberDependsOnlyOnItsOwnTextRow : OpenClaim := { program := "qxb6601605a", sum := "9334ba4e3596284f3c70e2cf4034c5fb8da592905f5a77362749380202229af6", func := "example.com/inlet/inlet/zzlaws_internal_jsontext_b1.FnScanNumberDependsOnlyOnItsOwnText", spec := "fnScanNumberDependsOnlyOnItsOwnText", apart := false }
def FnScanNumberDependsOnlyOnItsOwnTextSaid : Prop := fnScanNumberDependsOnlyOnItsOwnTextRow.holds Try.pinned (OpenSpec.ofChange fnScanNumberDependsOnlyOnItsOwnTextSpec)

/-- ITS FALSE NEIGHBOUR: 'it returns false'. Refute it at one input. -/
def fnScanNumberDependsOnlyOnItsOwnTextWrong : ChangeSpec := { name := "fnScanNumberDependsOnlyOnItsOwnText", fn := fun _ => fun
  | [d1, d2] => { results := [.lit (.bool false)], args := [d1, d2] }
  | _ => none }
def FnScanNumberDependsOnlyOnItsOwnTextWrongFalsely : Prop := fnScanNumberDependsOnlyOnItsOwnTextRow.holds Try.pinned (OpenSpec.ofChange fnScanNumberDependsOnlyOnItsOwnTextWrong)

/-- 'zzlaws_internal_jsontext_b1.FnHexRuneIsValueOfLastEightHexDigits': WHATEVER THE INPUT: true; the input reads as it did. -/
def fnHexRuneIsValueOfLastEightHexDigitsSpec : ChangeSpec := { name := "fnHexRuneIsValueOfLastEightHexDigits", fn := fun _ => fun
  | [d] => { results := [.lit (.bool true)], args := [d] }
  | _ => none }
def fnHexRuneIsValueOfLastEightHexDigitsRow : OpenClaim := { program := "qxb6601605a", sum := "9334ba4e3596284f3c70e2cf4034c5fb8da592905f5a77362749380202229af6", func := "example.com/inlet/inlet/zzlaws_internal_jsontext_b1.FnHexRuneIsValueOfLastEightHexDigits", spec := "fnHexRuneIsValueOfLastEightHexDigits", apart := false }
def FnHexRuneIsValueOfLastEightHexDigitsSaid : Prop := fnHexRuneIsValueOfLastEightHexDigitsRow.holds Try.pinned (OpenSpec.ofChange fnHexRuneIsValueOfLastEightHexDigitsSpec)

/-- ITS FALSE NEIGHBOUR: 'it returns false'. Refute it at one input. -/
def fnHexRuneIsValueOfLastEightHexDigitsWrong : ChangeSpec := { name := "fnHexRuneIsValueOfLastEightHexDigits", fn := fun _ => fun
  | [d] => { results := [.lit (.bool false)], args := [d] }
  | _ => none }
def FnHexRuneIsValueOfLastEightHexDigitsWrongFalsely : Prop := fnHexRuneIsValueOfLastEightHexDigitsRow.holds Try.pinned (OpenSpec.ofChange fnHexRuneIsValueOfLastEightHexDigitsWrong)

/-- 'zzlaws_internal_jsontext_b1.FnHexRuneInvertsFourDigitHex': WHATEVER THE INPUT: true; the input reads as it did. -/
def fnHexRuneInvertsFourDigitHexSpec : ChangeSpec := { name := "fnHexRuneInvertsFourDigitHex", fn := fun _ => fun
  | [d1, d2] => { results := [.lit (.bool true)], args := [d1, d2] }
  | _ => none }
def fnHexRuneInvertsFourDigitHexRow : OpenClaim := { program := "qxb6601605a", sum := "9334ba4e3596284f3c70e2cf4034c5fb8da592905f5a77362749380202229af6", func := "example.com/inlet/inlet/zzlaws_internal_jsontext_b1.FnHexRuneInvertsFourDigitHex", spec := "fnHexRuneInvertsFourDigitHex", apart := false }
def FnHexRuneInvertsFourDigitHexSaid : Prop := fnHexRuneInvertsFourDigitHexRow.holds Try.pinned (OpenSpec.ofChange fnHexRuneInvertsFourDigitHexSpec)

/-- ITS FALSE NEIGHBOUR: 'it returns false'. Refute it at one input. -/
def fnHexRuneInvertsFourDigitHexWrong : ChangeSpec := { name := "fnHexRuneInvertsFourDigitHex", fn := fun _ => fun
  | [d1, d2] => { results := [.lit (.bool false)], args := [d1, d2] }
  | _ => none }
def FnHexRuneInvertsFourDigitHexWrongFalsely : Prop := fnHexRuneInvertsFourDigitHexRow.holds Try.pinned (OpenSpec.ofChange fnHexRuneInvertsFourDigitHexWrong)

end Rows
end Go.Proofs.Qxb6601605a

/-
  No cell of these rows narrows 'for every input' (looked for: loops, veiled, ifaces, maps, wideKeys, modest, calm, conditions, laid).
  DERIVED. THE GIVEN ROWS OF THIS SEAT. 4 by the template 'for every input the law returns true; each argument reads behind the call as it read before'; 0 by the template 'total and deterministic' (their statements: Qxb6001176aTotals.lean).
  GIVEN WITH THE SEED: the statements are not yours to turn. If you find one false, say at which input.
  Laid BY PROGRAM, IN A SANDBOX (cutbox-rows.mjs): the forced cells as the released guide's own fill.sh prints them over the translation 9107e199b4bc1042… (all of the seat's roots in one cut). By AI agents, Wed Nov 11 2026. No macro, syntax, notation, axiom, sorry.
-/
import Derived.Test.Qxb6001176aChecked
import GoSem.Claim
import GoSem.ClaimJoined
import GoSem.ClaimMapViews
import Derived.JoinedTies
import Derived.KernelRfl
namespace Go.Proofs.Qxb6001176a
/- THE CELL 'sum', in the pinned program and in every row, IS THE sha256 OF THE DUMP (.gsa) THAT Qxb6001176aProg.lean LOADS. Nothing in Lean hashes anything: it is a label: what it is worth is what the hold of that sum in a sandbox is worth. -/
noncomputable def Try.pinned : Pinned := { name := "qxb6001176a", sum := "9107e199b4bc10421d0db6a6c52a4744bbf35a3b7289e9234ad8cac980db3e82", checked := Try.checked }
namespace Rows
def none {H : Type} : Left H := { results := [], args := [] }

/-- 'zzlaws_internal_jsonvalue_b1.FnHex4AcceptsExactlyFourHexDigits': WHATEVER THE INPUT: true; the input reads as it did. -/
def fnHex4AcceptsExactlyFourHexDigitsSpec : ChangeSpec := { name := "fnHex4AcceptsExactlyFourHexDigits", fn := fun _ => fun
  | [d] => { results := [.lit (.bool true)], args := [d] }
  | _ => none }
def fnHex4AcceptsExactlyFourHexDigitsRow : OpenClaim := { program := "qxb6001176a", sum := "9107e199b4bc10421d0db6a6c52a4744bbf35a3b7289e9234ad8cac980db3e82", func := "example.com/osprey/osprey/zzlaws_internal_jsonvalue_b1.FnHex4AcceptsExactlyFourHexDigits", spec := "fnHex4AcceptsExactlyFourHexDigits", apart := false }
def FnHex4AcceptsExactlyFourHexDigitsSaid : Prop := fnHex4AcceptsExactlyFourHexDigitsRow.holds Try.pinned (OpenSpec.ofChange fnHex4AcceptsExactlyFourHexDigitsSpec)

/-- ITS FALSE NEIGHBOUR: 'it returns false'. Refute it at one input. -/
def fnHex4AcceptsExactlyFourHexDigitsWrong : ChangeSpec := { name := "fnHex4AcceptsExactlyFourHexDigits", fn := fun _ => fun
  | [d] => { results := [.lit (.bool false)], args := [d] }
  | _ => none }
def FnHex4AcceptsExactlyFourHexDigitsWrongFalsely : Prop := fnHex4AcceptsExactlyFourHexDigitsRow.holds Try.pinned (OpenSpec.ofChange fnHex4AcceptsExactlyFourHexDigitsWrong)

/-- 'zzlaws_internal_jsonvalue_b1.FnHex4ReadsWhatFourDigitsSay': WHATEVER THE INPUT: true; the input reads as it did. -/
def fnHex4ReadsWhatFourDigitsSaySpec : ChangeSpec := { name := "fnHex4ReadsWhatFourDigitsSay", fn := fun _ => fun
  | [d1, d2, d3] => { results := [.lit (.bool true)], args := [d1, d2, d3] }
  | _ => none }
def fnHex4ReadsWhatFourDigitsSayRow : OpenClaim := { program := "qxb6001176a", sum := "9107e199b4bc10421d0db6a6c52a4744bbf35a3b7289e9234ad8cac980db3e82", func := "example.com/osprey/osprey/zzlaws_internal_jsonvalue_b1.FnHex4ReadsWhatFourDigitsSay", spec := "fnHex4ReadsWhatFourDigitsSay", apart := false }
def FnHex4ReadsWhatFourDigitsSaySaid : Prop := fnHex4ReadsWhatFourDigitsSayRow.holds Try.pinned (OpenSpec.ofChange fnHex4ReadsWhatFourDigitsSaySpec)

/-- ITS FALSE NEIGHBOUR: 'it returns false'. Refute it at one input. -/
def fnHex4ReadsWhatFourDigitsSayWrong : ChangeSpec := { name := "fnHex4ReadsWhatFourDigitsSay", fn := fun _ => fun
  | [d1, d2, d3] => { results := [.lit (.bool false)], args := [d1, d2, d3] }
  | _ => none }
def FnHex4ReadsWhatFourDigitsSayWrongFalsely : Prop := fnHex4ReadsWhatFourDigitsSayRow.holds Try.pinned (OpenSpec.ofChange fnHex4ReadsWhatFourDigitsSayWrong)

/-- 'zzlaws_internal_jsonvalue_b1.FnAppendEscapeDecodesBack': WHATEVER THE INPUT: true; the input reads as it did. -/
def fnAppendEscapeDecodesBackSpec : ChangeSpec := { name := "fnAppendEscapeDecodesBack", fn := fun _ => fun
  | [d1, d2] => { results := [.lit (.bool true)], args := [d1, d2] }
  | _ => none }
def fnAppendEscapeDecodesBackRow : OpenClaim := { program := "qxb6001176a", sum := "9107e199b4bc10421d0db6a6c52a4744bbf35a3b7289e9234ad8cac980db3e82", func := "example.com/osprey/osprey/zzlaws_internal_jsonvalue_b1.FnAppendEscapeDecodesBack", spec := "fnAppendEscapeDecodesBack", apart := false }
def FnAppendEscapeDecodesBackSaid : Prop := fnAppendEscapeDecodesBackRow.holds Try.pinned (OpenSpec.ofChange fnAppendEscapeDecodesBackSpec)

/-- ITS FALSE NEIGHBOUR: 'it returns false'. Refute it at one input. -/
def fnAppendEscapeDecodesBackWrong : ChangeSpec := { name := "fnAppendEscapeDecodesBack", fn := fun _ => fun
  | [d1, d2] => { results := [.lit (.bool false)], args := [d1, d2] }
  | _ => none }
def FnAppendEscapeDecodesBackWrongFalsely : Prop := fnAppendEscapeDecodesBackRow.holds Try.pinned (OpenSpec.ofChange fnAppendEscapeDecodesBackWrong)

/-- 'zzlaws_internal_jsonvalue_b1.FnAppendEscapeIsPrintableAscii': WHATEVER THE INPUT: true; the input reads as it did. -/
def fnAppendEscapeIsPrintableAsciiSpec : ChangeSpec := { name := "fnAppendEscapeIsPrintableAscii", fn := fun _ => fun
  | [d] => { results := [.lit (.bool true)], args := [d] }
  | _ => none }
def fnAppendEscapeIsPrintableAsciiRow : OpenClaim := { program := "qxb6001176a", sum := "9107e199b4bc10421d0db6a6c52a4744bbf35a3b7289e9234ad8cac980db3e82", func := "example.com/osprey/osprey/zzlaws_internal_jsonvalue_b1.FnAppendEscapeIsPrintableAscii", spec := "fnAppendEscapeIsPrintableAscii", apart := false }
def FnAppendEscapeIsPrintableAsciiSaid : Prop := fnAppendEscapeIsPrintableAsciiRow.holds Try.pinned (OpenSpec.ofChange fnAppendEscapeIsPrintableAsciiSpec)

/-- ITS FALSE NEIGHBOUR: 'it returns false'. Refute it at one input. -/
def fnAppendEscapeIsPrintableAsciiWrong : ChangeSpec := { name := "fnAppendEscapeIsPrintableAscii", fn := fun _ => fun
  | [d] => { results := [.lit (.bool false)], args := [d] }
  | _ => none }
def FnAppendEscapeIsPrintableAsciiWrongFalsely : Prop := fnAppendEscapeIsPrintableAsciiRow.holds Try.pinned (OpenSpec.ofChange fnAppendEscapeIsPrintableAsciiWrong)

end Rows
end Go.Proofs.Qxb6001176a

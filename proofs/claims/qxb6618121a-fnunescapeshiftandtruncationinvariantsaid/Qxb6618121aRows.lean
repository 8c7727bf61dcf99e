/-
  No cell of these rows narrows 'for every input' (looked for: loops, veiled, ifaces, maps, wideKeys, modest, calm, conditions, laid).
  DERIVED. THE GIVEN ROWS OF THIS SEAT. 5 by the template 'for every input the law returns true; each argument reads behind the call as it read before'; 0 by the template 'total and deterministic' (their statements: Qxb6618121aTotals.lean).
  GIVEN WITH THE SEED: the statements are not yours to turn. If you find one false, say at which input.
  Laid BY PROGRAM, IN A SANDBOX (cutbox-rows.mjs): the forced cells as the released guide's own fill.sh prints them over the translation a86e7ccf32edccf7… (all of the seat's roots in one cut). By AI agents, Wed Nov 11 2026. No macro, syntax, notation, axiom, sorry.
-/
import Derived.Test.Qxb6618121aChecked
import GoSem.Claim
import GoSem.ClaimJoined
import GoSem.ClaimMapViews
import Derived.JoinedTies
import Derived.KernelRfl
namespace Go.Proofs.Qxb6618121a
/- THE CELL 'sum', in the pinned program and in every row, IS THE sha256 OF THE DUMP (.gsa) THAT Qxb6618121aProg.lean LOADS. Nothing in Lean hashes anything: it is a label: what it is worth is what the hold of that sum in a sandbox is worth. -/
noncomputable def Try.pinned : Pinned := { name := "qxb6618121a", sum := "a86e7ccf32edccf7208450e50ebf25ce6fe775b49a1fd161b310b548aaec2238", checked := Try.checked }
namespace Rows
def none {H : Type} : Left H := { results := [], args := [] }

/-- 'zzlaws_resp_b1.FnParseLengthMatchesPlaceValueModel': WHATEVER THE INPUT: true; the input reads as it did. -/
def fnParseLengthMatchesPlaceValueModelSpec : ChangeSpec := { name := "fnParseLengthMatchesPlaceValueModel", fn := fun _ => fun
  | [d] => { results := [.lit (.bool true)], args := [d] }
  | _ => none }
def fnParseLengthMatchesPlaceValueModelRow : OpenClaim := { program := "qxb6618121a", sum := "a86e7ccf32edccf7208450e50ebf25ce6fe775b49a1fd161b310b548aaec2238", func := "example.com/meridian-vault/meridian-vault/zzlaws_resp_b1.FnParseLengthMatchesPlaceValueModel", spec := "fnParseLengthMatchesPlaceValueModel", apart := false }
def FnParseLengthMatchesPlaceValueModelSaid : Prop := fnParseLengthMatchesPlaceValueModelRow.holds Try.pinned (OpenSpec.ofChange fnParseLengthMatchesPlaceValueModelSpec)

/-- ITS FALSE NEIGHBOUR: 'it returns false'. Refute it at one input. -/
def fnParseLengthMatchesPlaceValueModelWrong : ChangeSpec := { name := "fnParseLengthMatchesPlaceValueModel", fn := fun _ => fun
  | [d] => { results := [.lit (.bool false)], args := [d] }
  | _ => none }
def FnParseLengthMatchesPlaceValueModelWrongFalsely : Prop := fnParseLengthMatchesPlaceValueModelRow.holds Try.pinned (OpenSpec.ofChange fnParseLengthMatchesPlaceValueModelWrong)

/-- 'zzlaws_resp_b1.FnParseLengthMinusPrefixNegates': WHATEVER THE INPUT: true; the input reads as it did. -/
def fnParseLengthMinusPrefixNegatesSpec : ChangeSpec := { name := "fnParseLengthMinusPrefixNegates", fn := fun _ => fun
  | [d] => { results := [.lit (.bool true)], args := [d] }
  | _ => none }
def fnParseLengthMinusPrefixNegatesRow : OpenClaim := { program := "qxb6618121a", sum := "a86e7ccf32edccf7208450e50ebf25ce6fe775b49a1fd161b310b548aaec2238", func := "example.com/meridian-vault/meridian-vault/zzlaws_resp_b1.FnParseLengthMinusPrefixNegates", spec := "fnParseLengthMinusPrefixNegates", apart := false }
def FnParseLengthMinusPrefixNegatesSaid : Prop := fnParseLengthMinusPrefixNegatesRow.holds Try.pinned (OpenSpec.ofChange fnParseLengthMinusPrefixNegatesSpec)

/-- ITS FALSE NEIGHBOUR: 'it returns false'. Refute it at one input. -/
def fnParseLengthMinusPrefixNegatesWrong : ChangeSpec := { name := "fnParseLengthMinusPrefixNegates", fn := fun _ => fun
  | [d] => { results := [.lit (.bool false)], args := [d] }
  | _ => none }
def FnParseLengthMinusPrefixNegatesWrongFalsely : Prop := fnParseLengthMinusPrefixNegatesRow.holds Try.pinned (OpenSpec.ofChange fnParseLengthMinusPrefixNegatesWrong)

/-- 'zzlaws_resp_b1.FnUnescapeShiftAndTruncationInvariant': WHATEVER THE INPUT: true; the input reads as it did. -/
def fnUnescapeShiftAndTruncationInvariantSpec : ChangeSpec := { name := "fnUnescapeShiftAndTruncationInvariant", fn := fun _ => fun
  | [d1, d2, d3] => { results := [.lit (.bool true)], args := [d1, d2, d3] }
  | _ => none }
def fnUnescapeShiftAndTruncationInvariantRow : OpenClaim := { program := "qxb6618121a", sum := "a86e7ccf32edccf7208450e50ebf25ce6fe775b49a1fd161b310b548aaec2238", func := "example.com/meridian-vault/meridian-vault/zzlaws_resp_b1.FnUnescapeShiftAndTruncationInvariant", spec := "fnUnescapeShiftAndTruncationInvariant", apart := false }
def FnUnescapeShiftAndTruncationInvariantSaid : Prop := fnUnescapeShiftAndTruncationInvariantRow.holds Try.pinned (OpenSpec.ofChange fnUnescapeShiftAndTruncationInvariantSpec)

/-- ITS FALSE NEIGHBOUR: 'it returns false'. Refute it at one input. -/
def fnUnescapeShiftAndTruncationInvariantWrong : ChangeSpec := { name := "fnUnescapeShiftAndTruncationInvariant", fn := fun _ => fun
  | [d1, d2, d3] => { results := [.lit (.bool false)], args := [d1, d2, d3] }
  | _ => none }
def FnUnescapeShiftAndTruncationInvariantWrongFalsely : Prop := fnUnescapeShiftAndTruncationInvariantRow.holds Try.pinned (OpenSpec.ofChange fnUnescapeShiftAndTruncationInvariantWrong)

/-- 'zzlaws_resp_b1.FnUnescapeHexPairAgreesWithHexDigit': WHATEVER THE INPUT: true; the input reads as it did. -/
def fnUnescapeHexPairAgreesWithHexDigitSpec : ChangeSpec := { name := "fnUnescapeHexPairAgreesWithHexDigit", fn := fun _ => fun
  | [d1, d2] => { results := [.lit (.bool true)], args := [d1, d2] }
  | _ => none }
def fnUnescapeHexPairAgreesWithHexDigitRow : OpenClaim := { program := "qxb6618121a", sum := "a86e7ccf32edccf7208450e50ebf25ce6fe775b49a1fd161b310b548aaec2238", func := "example.com/meridian-vault/meridian-vault/zzlaws_resp_b1.FnUnescapeHexPairAgreesWithHexDigit", spec := "fnUnescapeHexPairAgreesWithHexDigit", apart := false }
def FnUnescapeHexPairAgreesWithHexDigitSaid : Prop := fnUnescapeHexPairAgreesWithHexDigitRow.holds Try.pinned (OpenSpec.ofChange fnUnescapeHexPairAgreesWithHexDigitSpec)

/-- ITS FALSE NEIGHBOUR: 'it returns false'. Refute it at one input. -/
def fnUnescapeHexPairAgreesWithHexDigitWrong : ChangeSpec := { name := "fnUnescapeHexPairAgreesWithHexDigit", fn := fun _ => fun
  | [d1, d2] => { results := [.lit (.bool false)], args := [d1, d2] }
  | _ => none }
def FnUnescapeHexPairAgreesWithHexDigitWrongFalsely : Prop := fnUnescapeHexPairAgreesWithHexDigitRow.holds Try.pinned (OpenSpec.ofChange fnUnescapeHexPairAgreesWithHexDigitWrong)

/-- 'zzlaws_resp_b1.FnHexDigitValueIsRankAmongDigits': WHATEVER THE INPUT: true; the input reads as it did. -/
def fnHexDigitValueIsRankAmongDigitsSpec : ChangeSpec := { name := "fnHexDigitValueIsRankAmongDigits", fn := fun _ => fun
  | [d] => { results := [.lit (.bool true)], args := [d] }
  | _ => none }
def fnHexDigitValueIsRankAmongDigitsRow : OpenClaim := { program := "qxb6618121a", sum := "a86e7ccf32edccf7208450e50ebf25ce6fe775b49a1fd161b310b548aaec2238", func := "example.com/meridian-vault/meridian-vault/zzlaws_resp_b1.FnHexDigitValueIsRankAmongDigits", spec := "fnHexDigitValueIsRankAmongDigits", apart := false }
def FnHexDigitValueIsRankAmongDigitsSaid : Prop := fnHexDigitValueIsRankAmongDigitsRow.holds Try.pinned (OpenSpec.ofChange fnHexDigitValueIsRankAmongDigitsSpec)

/-- ITS FALSE NEIGHBOUR: 'it returns false'. Refute it at one input. -/
def fnHexDigitValueIsRankAmongDigitsWrong : ChangeSpec := { name := "fnHexDigitValueIsRankAmongDigits", fn := fun _ => fun
  | [d] => { results := [.lit (.bool false)], args := [d] }
  | _ => none }
def FnHexDigitValueIsRankAmongDigitsWrongFalsely : Prop := fnHexDigitValueIsRankAmongDigitsRow.holds Try.pinned (OpenSpec.ofChange fnHexDigitValueIsRankAmongDigitsWrong)

end Rows
end Go.Proofs.Qxb6618121a

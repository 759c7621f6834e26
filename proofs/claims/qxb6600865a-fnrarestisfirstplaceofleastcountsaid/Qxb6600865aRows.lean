/-
  No cell of these rows narrows 'for every input' (looked for: loops, veiled, ifaces, maps, wideKeys, modest, calm, conditions, laid).
  DERIVED. THE GIVEN ROWS OF THIS SEAT. 7 by the template 'for every input the law returns true; each argument reads behind the call as it read before'; 0 by the template 'total and deterministic' (their statements: Qxb6600865aTotals.lean).
  GIVEN WITH THE SEED: the statements are not yours to turn. If you find one false, say at which input.
  Laid BY PROGRAM, IN A SANDBOX (cutbox-rows.mjs): the forced cells as the released guide's own fill.sh prints them over the translation 72e11fd67906f6c7… (all of the seat's roots in one cut). By AI agents, Wed Nov 11 2026. No macro, syntax, notation, axiom, sorry.
-/
import Derived.Test.Qxb6600865aChecked
import GoSem.Claim
import GoSem.ClaimJoined
import GoSem.ClaimMapViews
import Derived.JoinedTies
import Derived.KernelRfl
namespace Go.Proofs.Qxb6600865a
/- THE CELL 'sum', in the pinned program and in every row, IS THE sha256 OF THE DUMP (.gsa) THAT Qxb6600865aProg.lean LOADS. Nothing in Lean hashes anything: it is a label: what it is worth is what the hold of that sum in a sandbox is worth. -/
noncomputable def Try.pinned : Pinned := { name := "qxb6600865a", sum := "72e11fd67906f6c78f51e0411fbe4b522c5c77849903edd9a14e20a867d023b5", checked := Try.checked }
namespace Rows
def none {H : Type} : Left H := { results := [], args := [] }

/-- 'zzlaws_internal_record_b1.FnRarestIsFirstPlaceOfLeastCount': WHATEVER THE INPUT: true; the input reads as it did. -/
def fnRarestIsFirstPlaceOfLeastCountSpec : ChangeSpec := { name := "fnRarestIsFirstPlaceOfLeastCount", fn := fun _ => fun
  | [d1, d2] => { results := [.lit (.bool true)], args := [d1, d2] }
  | _ => none }
def fnRarestIsFirstPlaceOfLeastCountRow : OpenClaim := { program := "qxb6600865a", sum := "72e11fd67906f6c78f51e0411fbe4b522c5c77849903edd9a14e20a867d023b5", func := "example.com/sealtrail/sealtrail/zzlaws_internal_record_b1.FnRarestIsFirstPlaceOfLeastCount", spec := "fnRarestIsFirstPlaceOfLeastCount", apart := false }
def FnRarestIsFirstPlaceOfLeastCountSaid : Prop := fnRarestIsFirstPlaceOfLeastCountRow.holds Try.pinned (OpenSpec.ofChange fnRarestIsFirstPlaceOfLeastCountSpec)

/-- ITS FALSE NEIGHBOUR: 'it returns false'. Refute it at one input. -/
def fnRarestIsFirstPlaceOfLeastCountWrong : ChangeSpec := { name := "fnRarestIsFirstPlaceOfLeastCount", fn := fun _ => fun
  | [d1, d2] => { results := [.lit (.bool false)], args := [d1, d2] }
  | _ => none }
def FnRarestIsFirstPlaceOfLeastCountWrongFalsely : Prop := fnRarestIsFirstPlaceOfLeastCountRow.holds Try.pinned (OpenSpec.ofChange fnRarestIsFirstPlaceOfLeastCountWrong)

/-- 'zzlaws_internal_record_b1.FnSkipStringAgreesWithAnEscapeScanner': WHATEVER THE INPUT: true; the input reads as it did. -/
def fnSkipStringAgreesWithAnEscapeScannerSpec : ChangeSpec := { name := "fnSkipStringAgreesWithAnEscapeScanner", fn := fun _ => fun
  | [d1, d2] => { results := [.lit (.bool true)], args := [d1, d2] }
  | _ => none }
def fnSkipStringAgreesWithAnEscapeScannerRow : OpenClaim := { program := "qxb6600865a", sum := "72e11fd67906f6c78f51e0411fbe4b522c5c77849903edd9a14e20a867d023b5", func := "example.com/sealtrail/sealtrail/zzlaws_internal_record_b1.FnSkipStringAgreesWithAnEscapeScanner", spec := "fnSkipStringAgreesWithAnEscapeScanner", inPlace := ["internal/bytealg.IndexByte"], apart := false }
def FnSkipStringAgreesWithAnEscapeScannerSaid : Prop := fnSkipStringAgreesWithAnEscapeScannerRow.holds Try.pinned (OpenSpec.ofChange fnSkipStringAgreesWithAnEscapeScannerSpec)

/-- ITS FALSE NEIGHBOUR: 'it returns false'. Refute it at one input. -/
def fnSkipStringAgreesWithAnEscapeScannerWrong : ChangeSpec := { name := "fnSkipStringAgreesWithAnEscapeScanner", fn := fun _ => fun
  | [d1, d2] => { results := [.lit (.bool false)], args := [d1, d2] }
  | _ => none }
def FnSkipStringAgreesWithAnEscapeScannerWrongFalsely : Prop := fnSkipStringAgreesWithAnEscapeScannerRow.holds Try.pinned (OpenSpec.ofChange fnSkipStringAgreesWithAnEscapeScannerWrong)

/-- 'zzlaws_internal_record_b1.FnSkipStringIgnoresTheTextBeforeItsQuote': WHATEVER THE INPUT: true; the input reads as it did. -/
def fnSkipStringIgnoresTheTextBeforeItsQuoteSpec : ChangeSpec := { name := "fnSkipStringIgnoresTheTextBeforeItsQuote", fn := fun _ => fun
  | [d1, d2] => { results := [.lit (.bool true)], args := [d1, d2] }
  | _ => none }
def fnSkipStringIgnoresTheTextBeforeItsQuoteRow : OpenClaim := { program := "qxb6600865a", sum := "72e11fd67906f6c78f51e0411fbe4b522c5c77849903edd9a14e20a867d023b5", func := "example.com/sealtrail/sealtrail/zzlaws_internal_record_b1.FnSkipStringIgnoresTheTextBeforeItsQuote", spec := "fnSkipStringIgnoresTheTextBeforeItsQuote", inPlace := ["internal/bytealg.IndexByte"], apart := false }
def FnSkipStringIgnoresTheTextBeforeItsQuoteSaid : Prop := fnSkipStringIgnoresTheTextBeforeItsQuoteRow.holds Try.pinned (OpenSpec.ofChange fnSkipStringIgnoresTheTextBeforeItsQuoteSpec)

/-- ITS FALSE NEIGHBOUR: 'it returns false'. Refute it at one input. -/
def fnSkipStringIgnoresTheTextBeforeItsQuoteWrong : ChangeSpec := { name := "fnSkipStringIgnoresTheTextBeforeItsQuote", fn := fun _ => fun
  | [d1, d2] => { results := [.lit (.bool false)], args := [d1, d2] }
  | _ => none }
def FnSkipStringIgnoresTheTextBeforeItsQuoteWrongFalsely : Prop := fnSkipStringIgnoresTheTextBeforeItsQuoteRow.holds Try.pinned (OpenSpec.ofChange fnSkipStringIgnoresTheTextBeforeItsQuoteWrong)

/-- 'zzlaws_internal_record_b1.FnSkipStringEndsJustAfterTheQuoteThatClosesEscapedText': WHATEVER THE INPUT: true; the input reads as it did. -/
def fnSkipStringEndsJustAfterTheQuoteThatClosesEscapedTextSpec : ChangeSpec := { name := "fnSkipStringEndsJustAfterTheQuoteThatClosesEscapedText", fn := fun _ => fun
  | [d1, d2] => { results := [.lit (.bool true)], args := [d1, d2] }
  | _ => none }
def fnSkipStringEndsJustAfterTheQuoteThatClosesEscapedTextRow : OpenClaim := { program := "qxb6600865a", sum := "72e11fd67906f6c78f51e0411fbe4b522c5c77849903edd9a14e20a867d023b5", func := "example.com/sealtrail/sealtrail/zzlaws_internal_record_b1.FnSkipStringEndsJustAfterTheQuoteThatClosesEscapedText", spec := "fnSkipStringEndsJustAfterTheQuoteThatClosesEscapedText", inPlace := ["internal/bytealg.IndexByte"], apart := false }
def FnSkipStringEndsJustAfterTheQuoteThatClosesEscapedTextSaid : Prop := fnSkipStringEndsJustAfterTheQuoteThatClosesEscapedTextRow.holds Try.pinned (OpenSpec.ofChange fnSkipStringEndsJustAfterTheQuoteThatClosesEscapedTextSpec)

/-- ITS FALSE NEIGHBOUR: 'it returns false'. Refute it at one input. -/
def fnSkipStringEndsJustAfterTheQuoteThatClosesEscapedTextWrong : ChangeSpec := { name := "fnSkipStringEndsJustAfterTheQuoteThatClosesEscapedText", fn := fun _ => fun
  | [d1, d2] => { results := [.lit (.bool false)], args := [d1, d2] }
  | _ => none }
def FnSkipStringEndsJustAfterTheQuoteThatClosesEscapedTextWrongFalsely : Prop := fnSkipStringEndsJustAfterTheQuoteThatClosesEscapedTextRow.holds Try.pinned (OpenSpec.ofChange fnSkipStringEndsJustAfterTheQuoteThatClosesEscapedTextWrong)

/-- 'zzlaws_internal_record_b1.FnAadhaarAtIsThreeJoinedGroupsOfFourPassingVerhoeff': WHATEVER THE INPUT: true; the input reads as it did. -/
def fnAadhaarAtIsThreeJoinedGroupsOfFourPassingVerhoeffSpec : ChangeSpec := { name := "fnAadhaarAtIsThreeJoinedGroupsOfFourPassingVerhoeff", fn := fun _ => fun
  | [d1, d2] => { results := [.lit (.bool true)], args := [d1, d2] }
  | _ => none }
def fnAadhaarAtIsThreeJoinedGroupsOfFourPassingVerhoeffRow : OpenClaim := { program := "qxb6600865a", sum := "72e11fd67906f6c78f51e0411fbe4b522c5c77849903edd9a14e20a867d023b5", func := "example.com/sealtrail/sealtrail/zzlaws_internal_record_b1.FnAadhaarAtIsThreeJoinedGroupsOfFourPassingVerhoeff", spec := "fnAadhaarAtIsThreeJoinedGroupsOfFourPassingVerhoeff", apart := false }
def FnAadhaarAtIsThreeJoinedGroupsOfFourPassingVerhoeffSaid : Prop := fnAadhaarAtIsThreeJoinedGroupsOfFourPassingVerhoeffRow.holds Try.pinned (OpenSpec.ofChange fnAadhaarAtIsThreeJoinedGroupsOfFourPassingVerhoeffSpec)

/-- ITS FALSE NEIGHBOUR: 'it returns false'. Refute it at one input. -/
def fnAadhaarAtIsThreeJoinedGroupsOfFourPassingVerhoeffWrong : ChangeSpec := { name := "fnAadhaarAtIsThreeJoinedGroupsOfFourPassingVerhoeff", fn := fun _ => fun
  | [d1, d2] => { results := [.lit (.bool false)], args := [d1, d2] }
  | _ => none }
def FnAadhaarAtIsThreeJoinedGroupsOfFourPassingVerhoeffWrongFalsely : Prop := fnAadhaarAtIsThreeJoinedGroupsOfFourPassingVerhoeffRow.holds Try.pinned (OpenSpec.ofChange fnAadhaarAtIsThreeJoinedGroupsOfFourPassingVerhoeffWrong)

/-- 'zzlaws_internal_record_b1.FnAadhaarAtRefusesAnyOneMistypedDigit': WHATEVER THE INPUT: true; the input reads as it did. -/
def fnAadhaarAtRefusesAnyOneMistypedDigitSpec : ChangeSpec := { name := "fnAadhaarAtRefusesAnyOneMistypedDigit", fn := fun _ => fun
  | [d1, d2, d3, d4] => { results := [.lit (.bool true)], args := [d1, d2, d3, d4] }
  | _ => none }
def fnAadhaarAtRefusesAnyOneMistypedDigitRow : OpenClaim := { program := "qxb6600865a", sum := "72e11fd67906f6c78f51e0411fbe4b522c5c77849903edd9a14e20a867d023b5", func := "example.com/sealtrail/sealtrail/zzlaws_internal_record_b1.FnAadhaarAtRefusesAnyOneMistypedDigit", spec := "fnAadhaarAtRefusesAnyOneMistypedDigit", apart := false }
def FnAadhaarAtRefusesAnyOneMistypedDigitSaid : Prop := fnAadhaarAtRefusesAnyOneMistypedDigitRow.holds Try.pinned (OpenSpec.ofChange fnAadhaarAtRefusesAnyOneMistypedDigitSpec)

/-- ITS FALSE NEIGHBOUR: 'it returns false'. Refute it at one input. -/
def fnAadhaarAtRefusesAnyOneMistypedDigitWrong : ChangeSpec := { name := "fnAadhaarAtRefusesAnyOneMistypedDigit", fn := fun _ => fun
  | [d1, d2, d3, d4] => { results := [.lit (.bool false)], args := [d1, d2, d3, d4] }
  | _ => none }
def FnAadhaarAtRefusesAnyOneMistypedDigitWrongFalsely : Prop := fnAadhaarAtRefusesAnyOneMistypedDigitRow.holds Try.pinned (OpenSpec.ofChange fnAadhaarAtRefusesAnyOneMistypedDigitWrong)

/-- 'zzlaws_internal_record_b1.FnAadhaarAtTakesBlankTabOrHyphenAlike': WHATEVER THE INPUT: true; the input reads as it did. -/
def fnAadhaarAtTakesBlankTabOrHyphenAlikeSpec : ChangeSpec := { name := "fnAadhaarAtTakesBlankTabOrHyphenAlike", fn := fun _ => fun
  | [d1, d2, d3, d4] => { results := [.lit (.bool true)], args := [d1, d2, d3, d4] }
  | _ => none }
def fnAadhaarAtTakesBlankTabOrHyphenAlikeRow : OpenClaim := { program := "qxb6600865a", sum := "72e11fd67906f6c78f51e0411fbe4b522c5c77849903edd9a14e20a867d023b5", func := "example.com/sealtrail/sealtrail/zzlaws_internal_record_b1.FnAadhaarAtTakesBlankTabOrHyphenAlike", spec := "fnAadhaarAtTakesBlankTabOrHyphenAlike", apart := false }
def FnAadhaarAtTakesBlankTabOrHyphenAlikeSaid : Prop := fnAadhaarAtTakesBlankTabOrHyphenAlikeRow.holds Try.pinned (OpenSpec.ofChange fnAadhaarAtTakesBlankTabOrHyphenAlikeSpec)

/-- ITS FALSE NEIGHBOUR: 'it returns false'. Refute it at one input. -/
def fnAadhaarAtTakesBlankTabOrHyphenAlikeWrong : ChangeSpec := { name := "fnAadhaarAtTakesBlankTabOrHyphenAlike", fn := fun _ => fun
  | [d1, d2, d3, d4] => { results := [.lit (.bool false)], args := [d1, d2, d3, d4] }
  | _ => none }
def FnAadhaarAtTakesBlankTabOrHyphenAlikeWrongFalsely : Prop := fnAadhaarAtTakesBlankTabOrHyphenAlikeRow.holds Try.pinned (OpenSpec.ofChange fnAadhaarAtTakesBlankTabOrHyphenAlikeWrong)

end Rows
end Go.Proofs.Qxb6600865a

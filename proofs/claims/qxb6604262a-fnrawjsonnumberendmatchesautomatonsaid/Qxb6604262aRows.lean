/-
  No cell of these rows narrows 'for every input' (looked for: loops, veiled, ifaces, maps, wideKeys, modest, calm, conditions, laid).
  DERIVED. THE GIVEN ROWS OF THIS SEAT. 8 by the template 'for every input the law returns true; each argument reads behind the call as it read before'; 0 by the template 'total and deterministic' (their statements: Qxb6604262aTotals.lean).
  GIVEN WITH THE SEED: the statements are not yours to turn. If you find one false, say at which input.
  Laid BY PROGRAM, IN A SANDBOX (cutbox-rows.mjs): the forced cells as the released guide's own fill.sh prints them over the translation d63f3a0d438627b3… (all of the seat's roots in one cut). By AI agents, Wed Nov 11 2026. No macro, syntax, notation, axiom, sorry.
-/
import Derived.Test.Qxb6604262aChecked
import GoSem.Claim
import GoSem.ClaimJoined
import GoSem.ClaimMapViews
import Derived.JoinedTies
import Derived.KernelRfl
namespace Go.Proofs.Qxb6604262a
/- THE CELL 'sum', in the pinned program and in every row, IS THE sha256 OF THE DUMP (.gsa) THAT Qxb6604262aProg.lean LOADS. Nothing in Lean hashes anything: it is a label: what it is worth is what the hold of that sum in a sandbox is worth. -/
noncomputable def Try.pinned : Pinned := { name := "qxb6604262a", sum := "d63f3a0d438627b3015d5e18f750ddad8cdf89af9cd4d5032397a4612ed5f13e", checked := Try.checked }
namespace Rows
def none {H : Type} : Left H := { results := [], args := [] }

/-- 'zzlaws_rawjson_b1.FnRawjsonStringEndMatchesEscapeScanner': WHATEVER THE INPUT: true; the input reads as it did. -/
def fnRawjsonStringEndMatchesEscapeScannerSpec : ChangeSpec := { name := "fnRawjsonStringEndMatchesEscapeScanner", fn := fun _ => fun
  | [d1, d2] => { results := [.lit (.bool true)], args := [d1, d2] }
  | _ => none }
def fnRawjsonStringEndMatchesEscapeScannerRow : OpenClaim := { program := "qxb6604262a", sum := "d63f3a0d438627b3015d5e18f750ddad8cdf89af9cd4d5032397a4612ed5f13e", func := "example.com/geryon/geryon/zzlaws_rawjson_b1.FnRawjsonStringEndMatchesEscapeScanner", spec := "fnRawjsonStringEndMatchesEscapeScanner", inPlace := ["internal/bytealg.IndexByte"], apart := false }
def FnRawjsonStringEndMatchesEscapeScannerSaid : Prop := fnRawjsonStringEndMatchesEscapeScannerRow.holds Try.pinned (OpenSpec.ofChange fnRawjsonStringEndMatchesEscapeScannerSpec)

/-- ITS FALSE NEIGHBOUR: 'it returns false'. Refute it at one input. -/
def fnRawjsonStringEndMatchesEscapeScannerWrong : ChangeSpec := { name := "fnRawjsonStringEndMatchesEscapeScanner", fn := fun _ => fun
  | [d1, d2] => { results := [.lit (.bool false)], args := [d1, d2] }
  | _ => none }
def FnRawjsonStringEndMatchesEscapeScannerWrongFalsely : Prop := fnRawjsonStringEndMatchesEscapeScannerRow.holds Try.pinned (OpenSpec.ofChange fnRawjsonStringEndMatchesEscapeScannerWrong)

/-- 'zzlaws_rawjson_b1.FnRawjsonStringEndFindsEscapedString': WHATEVER THE INPUT: true; the input reads as it did. -/
def fnRawjsonStringEndFindsEscapedStringSpec : ChangeSpec := { name := "fnRawjsonStringEndFindsEscapedString", fn := fun _ => fun
  | [d1, d2, d3] => { results := [.lit (.bool true)], args := [d1, d2, d3] }
  | _ => none }
def fnRawjsonStringEndFindsEscapedStringRow : OpenClaim := { program := "qxb6604262a", sum := "d63f3a0d438627b3015d5e18f750ddad8cdf89af9cd4d5032397a4612ed5f13e", func := "example.com/geryon/geryon/zzlaws_rawjson_b1.FnRawjsonStringEndFindsEscapedString", spec := "fnRawjsonStringEndFindsEscapedString", inPlace := ["internal/bytealg.IndexByte"], apart := false }
def FnRawjsonStringEndFindsEscapedStringSaid : Prop := fnRawjsonStringEndFindsEscapedStringRow.holds Try.pinned (OpenSpec.ofChange fnRawjsonStringEndFindsEscapedStringSpec)

/-- ITS FALSE NEIGHBOUR: 'it returns false'. Refute it at one input. -/
def fnRawjsonStringEndFindsEscapedStringWrong : ChangeSpec := { name := "fnRawjsonStringEndFindsEscapedString", fn := fun _ => fun
  | [d1, d2, d3] => { results := [.lit (.bool false)], args := [d1, d2, d3] }
  | _ => none }
def FnRawjsonStringEndFindsEscapedStringWrongFalsely : Prop := fnRawjsonStringEndFindsEscapedStringRow.holds Try.pinned (OpenSpec.ofChange fnRawjsonStringEndFindsEscapedStringWrong)

/-- 'zzlaws_rawjson_b1.FnRawjsonNumberEndMatchesAutomaton': WHATEVER THE INPUT: true; the input reads as it did. -/
def fnRawjsonNumberEndMatchesAutomatonSpec : ChangeSpec := { name := "fnRawjsonNumberEndMatchesAutomaton", fn := fun _ => fun
  | [d1, d2] => { results := [.lit (.bool true)], args := [d1, d2] }
  | _ => none }
def fnRawjsonNumberEndMatchesAutomatonRow : OpenClaim := { program := "qxb6604262a", sum := "d63f3a0d438627b3015d5e18f750ddad8cdf89af9cd4d5032397a4612ed5f13e", func := "example.com/geryon/geryon/zzlaws_rawjson_b1.FnRawjsonNumberEndMatchesAutomaton", spec := "fnRawjsonNumberEndMatchesAutomaton", apart := false }
def FnRawjsonNumberEndMatchesAutomatonSaid : Prop := fnRawjsonNumberEndMatchesAutomatonRow.holds Try.pinned (OpenSpec.ofChange fnRawjsonNumberEndMatchesAutomatonSpec)

/-- ITS FALSE NEIGHBOUR: 'it returns false'. Refute it at one input. -/
def fnRawjsonNumberEndMatchesAutomatonWrong : ChangeSpec := { name := "fnRawjsonNumberEndMatchesAutomaton", fn := fun _ => fun
  | [d1, d2] => { results := [.lit (.bool false)], args := [d1, d2] }
  | _ => none }
def FnRawjsonNumberEndMatchesAutomatonWrongFalsely : Prop := fnRawjsonNumberEndMatchesAutomatonRow.holds Try.pinned (OpenSpec.ofChange fnRawjsonNumberEndMatchesAutomatonWrong)

/-- 'zzlaws_rawjson_b1.FnRawjsonNumberEndSelfDelimiting': WHATEVER THE INPUT: true; the input reads as it did. -/
def fnRawjsonNumberEndSelfDelimitingSpec : ChangeSpec := { name := "fnRawjsonNumberEndSelfDelimiting", fn := fun _ => fun
  | [d1, d2] => { results := [.lit (.bool true)], args := [d1, d2] }
  | _ => none }
def fnRawjsonNumberEndSelfDelimitingRow : OpenClaim := { program := "qxb6604262a", sum := "d63f3a0d438627b3015d5e18f750ddad8cdf89af9cd4d5032397a4612ed5f13e", func := "example.com/geryon/geryon/zzlaws_rawjson_b1.FnRawjsonNumberEndSelfDelimiting", spec := "fnRawjsonNumberEndSelfDelimiting", apart := false }
def FnRawjsonNumberEndSelfDelimitingSaid : Prop := fnRawjsonNumberEndSelfDelimitingRow.holds Try.pinned (OpenSpec.ofChange fnRawjsonNumberEndSelfDelimitingSpec)

/-- ITS FALSE NEIGHBOUR: 'it returns false'. Refute it at one input. -/
def fnRawjsonNumberEndSelfDelimitingWrong : ChangeSpec := { name := "fnRawjsonNumberEndSelfDelimiting", fn := fun _ => fun
  | [d1, d2] => { results := [.lit (.bool false)], args := [d1, d2] }
  | _ => none }
def FnRawjsonNumberEndSelfDelimitingWrongFalsely : Prop := fnRawjsonNumberEndSelfDelimitingRow.holds Try.pinned (OpenSpec.ofChange fnRawjsonNumberEndSelfDelimitingWrong)

/-- 'zzlaws_rawjson_b1.FnRawjsonNumberEndReadsFormattedInteger': WHATEVER THE INPUT: true; the input reads as it did. -/
def fnRawjsonNumberEndReadsFormattedIntegerSpec : ChangeSpec := { name := "fnRawjsonNumberEndReadsFormattedInteger", fn := fun _ => fun
  | [d1, d2] => { results := [.lit (.bool true)], args := [d1, d2] }
  | _ => none }
def fnRawjsonNumberEndReadsFormattedIntegerRow : OpenClaim := { program := "qxb6604262a", sum := "d63f3a0d438627b3015d5e18f750ddad8cdf89af9cd4d5032397a4612ed5f13e", func := "example.com/geryon/geryon/zzlaws_rawjson_b1.FnRawjsonNumberEndReadsFormattedInteger", spec := "fnRawjsonNumberEndReadsFormattedInteger", apart := false }
def FnRawjsonNumberEndReadsFormattedIntegerSaid : Prop := fnRawjsonNumberEndReadsFormattedIntegerRow.holds Try.pinned (OpenSpec.ofChange fnRawjsonNumberEndReadsFormattedIntegerSpec)

/-- ITS FALSE NEIGHBOUR: 'it returns false'. Refute it at one input. -/
def fnRawjsonNumberEndReadsFormattedIntegerWrong : ChangeSpec := { name := "fnRawjsonNumberEndReadsFormattedInteger", fn := fun _ => fun
  | [d1, d2] => { results := [.lit (.bool false)], args := [d1, d2] }
  | _ => none }
def FnRawjsonNumberEndReadsFormattedIntegerWrongFalsely : Prop := fnRawjsonNumberEndReadsFormattedIntegerRow.holds Try.pinned (OpenSpec.ofChange fnRawjsonNumberEndReadsFormattedIntegerWrong)

/-- 'zzlaws_rawjson_b1.FnRawjsonValueEndMatchesTokenScanner': WHATEVER THE INPUT: true; the input reads as it did. -/
def fnRawjsonValueEndMatchesTokenScannerSpec : ChangeSpec := { name := "fnRawjsonValueEndMatchesTokenScanner", fn := fun _ => fun
  | [d1, d2] => { results := [.lit (.bool true)], args := [d1, d2] }
  | _ => none }
def fnRawjsonValueEndMatchesTokenScannerRow : OpenClaim := { program := "qxb6604262a", sum := "d63f3a0d438627b3015d5e18f750ddad8cdf89af9cd4d5032397a4612ed5f13e", func := "example.com/geryon/geryon/zzlaws_rawjson_b1.FnRawjsonValueEndMatchesTokenScanner", spec := "fnRawjsonValueEndMatchesTokenScanner", inPlace := ["internal/bytealg.IndexByte"], apart := false }
def FnRawjsonValueEndMatchesTokenScannerSaid : Prop := fnRawjsonValueEndMatchesTokenScannerRow.holds Try.pinned (OpenSpec.ofChange fnRawjsonValueEndMatchesTokenScannerSpec)

/-- ITS FALSE NEIGHBOUR: 'it returns false'. Refute it at one input. -/
def fnRawjsonValueEndMatchesTokenScannerWrong : ChangeSpec := { name := "fnRawjsonValueEndMatchesTokenScanner", fn := fun _ => fun
  | [d1, d2] => { results := [.lit (.bool false)], args := [d1, d2] }
  | _ => none }
def FnRawjsonValueEndMatchesTokenScannerWrongFalsely : Prop := fnRawjsonValueEndMatchesTokenScannerRow.holds Try.pinned (OpenSpec.ofChange fnRawjsonValueEndMatchesTokenScannerWrong)

/-- 'zzlaws_rawjson_b1.FnRawjsonValueEndAgreesWithNumberEnd': WHATEVER THE INPUT: true; the input reads as it did. -/
def fnRawjsonValueEndAgreesWithNumberEndSpec : ChangeSpec := { name := "fnRawjsonValueEndAgreesWithNumberEnd", fn := fun _ => fun
  | [d1, d2] => { results := [.lit (.bool true)], args := [d1, d2] }
  | _ => none }
def fnRawjsonValueEndAgreesWithNumberEndRow : OpenClaim := { program := "qxb6604262a", sum := "d63f3a0d438627b3015d5e18f750ddad8cdf89af9cd4d5032397a4612ed5f13e", func := "example.com/geryon/geryon/zzlaws_rawjson_b1.FnRawjsonValueEndAgreesWithNumberEnd", spec := "fnRawjsonValueEndAgreesWithNumberEnd", inPlace := ["internal/bytealg.IndexByte"], apart := false }
def FnRawjsonValueEndAgreesWithNumberEndSaid : Prop := fnRawjsonValueEndAgreesWithNumberEndRow.holds Try.pinned (OpenSpec.ofChange fnRawjsonValueEndAgreesWithNumberEndSpec)

/-- ITS FALSE NEIGHBOUR: 'it returns false'. Refute it at one input. -/
def fnRawjsonValueEndAgreesWithNumberEndWrong : ChangeSpec := { name := "fnRawjsonValueEndAgreesWithNumberEnd", fn := fun _ => fun
  | [d1, d2] => { results := [.lit (.bool false)], args := [d1, d2] }
  | _ => none }
def FnRawjsonValueEndAgreesWithNumberEndWrongFalsely : Prop := fnRawjsonValueEndAgreesWithNumberEndRow.holds Try.pinned (OpenSpec.ofChange fnRawjsonValueEndAgreesWithNumberEndWrong)

/-- 'zzlaws_rawjson_b1.FnRawjsonValueEndSelfDelimiting': WHATEVER THE INPUT: true; the input reads as it did. -/
def fnRawjsonValueEndSelfDelimitingSpec : ChangeSpec := { name := "fnRawjsonValueEndSelfDelimiting", fn := fun _ => fun
  | [d1, d2] => { results := [.lit (.bool true)], args := [d1, d2] }
  | _ => none }
def fnRawjsonValueEndSelfDelimitingRow : OpenClaim := { program := "qxb6604262a", sum := "d63f3a0d438627b3015d5e18f750ddad8cdf89af9cd4d5032397a4612ed5f13e", func := "example.com/geryon/geryon/zzlaws_rawjson_b1.FnRawjsonValueEndSelfDelimiting", spec := "fnRawjsonValueEndSelfDelimiting", inPlace := ["internal/bytealg.IndexByte"], apart := false }
def FnRawjsonValueEndSelfDelimitingSaid : Prop := fnRawjsonValueEndSelfDelimitingRow.holds Try.pinned (OpenSpec.ofChange fnRawjsonValueEndSelfDelimitingSpec)

/-- ITS FALSE NEIGHBOUR: 'it returns false'. Refute it at one input. -/
def fnRawjsonValueEndSelfDelimitingWrong : ChangeSpec := { name := "fnRawjsonValueEndSelfDelimiting", fn := fun _ => fun
  | [d1, d2] => { results := [.lit (.bool false)], args := [d1, d2] }
  | _ => none }
def FnRawjsonValueEndSelfDelimitingWrongFalsely : Prop := fnRawjsonValueEndSelfDelimitingRow.holds Try.pinned (OpenSpec.ofChange fnRawjsonValueEndSelfDelimitingWrong)

end Rows
end Go.Proofs.Qxb6604262a

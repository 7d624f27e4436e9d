/-
  No cell of these rows narrows 'for every input' (looked for: loops, veiled, ifaces, maps, wideKeys, modest, calm, conditions, laid).
  DERIVED. THE GIVEN ROWS OF THIS SEAT. 5 by the template 'for every input the law returns true; each argument reads behind the call as it read before'; 0 by the template 'total and deterministic' (their statements: Qxb6603472aTotals.lean).
  GIVEN WITH THE SEED: the statements are not yours to turn. If you find one false, say at which input.
  Laid BY PROGRAM, IN A SANDBOX (cutbox-rows.mjs): the forced cells as the released guide's own fill.sh prints them over the translation c90b3c8f1a6612b9… (all of the seat's roots in one cut). By AI agents, Wed Nov 11 2026. No macro, syntax, notation, axiom, sorry.
-/
import Derived.Test.Qxb6603472aChecked
import GoSem.Claim
import GoSem.ClaimJoined
import GoSem.ClaimMapViews
import Derived.JoinedTies
import Derived.KernelRfl
namespace Go.Proofs.Qxb6603472a
/- THE CELL 'sum', in the pinned program and in every row, IS THE sha256 OF THE DUMP (.gsa) THAT Qxb6603472aProg.lean LOADS. Nothing in Lean hashes anything: it is a label: what it is worth is what the hold of that sum in a sandbox is worth. -/
noncomputable def Try.pinned : Pinned := { name := "qxb6603472a", sum := "c90b3c8f1a6612b976bed6f4815c03a8ea4d065d55cdfeeea6707a0c85a9a163", checked := Try.checked }
namespace Rows
def none {H : Type} : Left H := { results := [], args := [] }

/-- 'zzlaws_strictjson_b1.FnScanNumberAgreesWithGrammarAutomaton': WHATEVER THE INPUT: true; the input reads as it did. -/
def fnScanNumberAgreesWithGrammarAutomatonSpec : ChangeSpec := { name := "fnScanNumberAgreesWithGrammarAutomaton", fn := fun _ => fun
  | [d1, d2] => { results := [.lit (.bool true)], args := [d1, d2] }
  | _ => none }
def fnScanNumberAgreesWithGrammarAutomatonRow : OpenClaim := { program := "qxb6603472a", sum := "c90b3c8f1a6612b976bed6f4815c03a8ea4d065d55cdfeeea6707a0c85a9a163", func := "example.com/surety-ledger/surety-ledger/zzlaws_strictjson_b1.FnScanNumberAgreesWithGrammarAutomaton", spec := "fnScanNumberAgreesWithGrammarAutomaton", apart := false }
def FnScanNumberAgreesWithGrammarAutomatonSaid : Prop := fnScanNumberAgreesWithGrammarAutomatonRow.holds Try.pinned (OpenSpec.ofChange fnScanNumberAgreesWithGrammarAutomatonSpec)

/-- ITS FALSE NEIGHBOUR: 'it returns false'. Refute it at one input. -/
def fnScanNumberAgreesWithGrammarAutomatonWrong : ChangeSpec := { name := "fnScanNumberAgreesWithGrammarAutomaton", fn := fun _ => fun
  | [d1, d2] => { results := [.lit (.bool false)], args := [d1, d2] }
  | _ => none }
def FnScanNumberAgreesWithGrammarAutomatonWrongFalsely : Prop := fnScanNumberAgreesWithGrammarAutomatonRow.holds Try.pinned (OpenSpec.ofChange fnScanNumberAgreesWithGrammarAutomatonWrong)

/-- 'zzlaws_strictjson_b1.FnSkipDigitsEndsTheRunOfDigits': WHATEVER THE INPUT: true; the input reads as it did. -/
def fnSkipDigitsEndsTheRunOfDigitsSpec : ChangeSpec := { name := "fnSkipDigitsEndsTheRunOfDigits", fn := fun _ => fun
  | [d1, d2] => { results := [.lit (.bool true)], args := [d1, d2] }
  | _ => none }
def fnSkipDigitsEndsTheRunOfDigitsRow : OpenClaim := { program := "qxb6603472a", sum := "c90b3c8f1a6612b976bed6f4815c03a8ea4d065d55cdfeeea6707a0c85a9a163", func := "example.com/surety-ledger/surety-ledger/zzlaws_strictjson_b1.FnSkipDigitsEndsTheRunOfDigits", spec := "fnSkipDigitsEndsTheRunOfDigits", apart := false }
def FnSkipDigitsEndsTheRunOfDigitsSaid : Prop := fnSkipDigitsEndsTheRunOfDigitsRow.holds Try.pinned (OpenSpec.ofChange fnSkipDigitsEndsTheRunOfDigitsSpec)

/-- ITS FALSE NEIGHBOUR: 'it returns false'. Refute it at one input. -/
def fnSkipDigitsEndsTheRunOfDigitsWrong : ChangeSpec := { name := "fnSkipDigitsEndsTheRunOfDigits", fn := fun _ => fun
  | [d1, d2] => { results := [.lit (.bool false)], args := [d1, d2] }
  | _ => none }
def FnSkipDigitsEndsTheRunOfDigitsWrongFalsely : Prop := fnSkipDigitsEndsTheRunOfDigitsRow.holds Try.pinned (OpenSpec.ofChange fnSkipDigitsEndsTheRunOfDigitsWrong)

/-- 'zzlaws_strictjson_b1.FnSkipDigitsSameEndFromInsideTheRun': WHATEVER THE INPUT: true; the input reads as it did. -/
def fnSkipDigitsSameEndFromInsideTheRunSpec : ChangeSpec := { name := "fnSkipDigitsSameEndFromInsideTheRun", fn := fun _ => fun
  | [d1, d2, d3] => { results := [.lit (.bool true)], args := [d1, d2, d3] }
  | _ => none }
def fnSkipDigitsSameEndFromInsideTheRunRow : OpenClaim := { program := "qxb6603472a", sum := "c90b3c8f1a6612b976bed6f4815c03a8ea4d065d55cdfeeea6707a0c85a9a163", func := "example.com/surety-ledger/surety-ledger/zzlaws_strictjson_b1.FnSkipDigitsSameEndFromInsideTheRun", spec := "fnSkipDigitsSameEndFromInsideTheRun", apart := false }
def FnSkipDigitsSameEndFromInsideTheRunSaid : Prop := fnSkipDigitsSameEndFromInsideTheRunRow.holds Try.pinned (OpenSpec.ofChange fnSkipDigitsSameEndFromInsideTheRunSpec)

/-- ITS FALSE NEIGHBOUR: 'it returns false'. Refute it at one input. -/
def fnSkipDigitsSameEndFromInsideTheRunWrong : ChangeSpec := { name := "fnSkipDigitsSameEndFromInsideTheRun", fn := fun _ => fun
  | [d1, d2, d3] => { results := [.lit (.bool false)], args := [d1, d2, d3] }
  | _ => none }
def FnSkipDigitsSameEndFromInsideTheRunWrongFalsely : Prop := fnSkipDigitsSameEndFromInsideTheRunRow.holds Try.pinned (OpenSpec.ofChange fnSkipDigitsSameEndFromInsideTheRunWrong)

/-- 'zzlaws_strictjson_b1.FnSkipSpaceEndsTheRunOfJSONSpace': WHATEVER THE INPUT: true; the input reads as it did. -/
def fnSkipSpaceEndsTheRunOfJSONSpaceSpec : ChangeSpec := { name := "fnSkipSpaceEndsTheRunOfJSONSpace", fn := fun _ => fun
  | [d1, d2] => { results := [.lit (.bool true)], args := [d1, d2] }
  | _ => none }
def fnSkipSpaceEndsTheRunOfJSONSpaceRow : OpenClaim := { program := "qxb6603472a", sum := "c90b3c8f1a6612b976bed6f4815c03a8ea4d065d55cdfeeea6707a0c85a9a163", func := "example.com/surety-ledger/surety-ledger/zzlaws_strictjson_b1.FnSkipSpaceEndsTheRunOfJSONSpace", spec := "fnSkipSpaceEndsTheRunOfJSONSpace", apart := false }
def FnSkipSpaceEndsTheRunOfJSONSpaceSaid : Prop := fnSkipSpaceEndsTheRunOfJSONSpaceRow.holds Try.pinned (OpenSpec.ofChange fnSkipSpaceEndsTheRunOfJSONSpaceSpec)

/-- ITS FALSE NEIGHBOUR: 'it returns false'. Refute it at one input. -/
def fnSkipSpaceEndsTheRunOfJSONSpaceWrong : ChangeSpec := { name := "fnSkipSpaceEndsTheRunOfJSONSpace", fn := fun _ => fun
  | [d1, d2] => { results := [.lit (.bool false)], args := [d1, d2] }
  | _ => none }
def FnSkipSpaceEndsTheRunOfJSONSpaceWrongFalsely : Prop := fnSkipSpaceEndsTheRunOfJSONSpaceRow.holds Try.pinned (OpenSpec.ofChange fnSkipSpaceEndsTheRunOfJSONSpaceWrong)

/-- 'zzlaws_strictjson_b1.FnSkipSpaceSameEndFromInsideTheRun': WHATEVER THE INPUT: true; the input reads as it did. -/
def fnSkipSpaceSameEndFromInsideTheRunSpec : ChangeSpec := { name := "fnSkipSpaceSameEndFromInsideTheRun", fn := fun _ => fun
  | [d1, d2, d3] => { results := [.lit (.bool true)], args := [d1, d2, d3] }
  | _ => none }
def fnSkipSpaceSameEndFromInsideTheRunRow : OpenClaim := { program := "qxb6603472a", sum := "c90b3c8f1a6612b976bed6f4815c03a8ea4d065d55cdfeeea6707a0c85a9a163", func := "example.com/surety-ledger/surety-ledger/zzlaws_strictjson_b1.FnSkipSpaceSameEndFromInsideTheRun", spec := "fnSkipSpaceSameEndFromInsideTheRun", apart := false }
def FnSkipSpaceSameEndFromInsideTheRunSaid : Prop := fnSkipSpaceSameEndFromInsideTheRunRow.holds Try.pinned (OpenSpec.ofChange fnSkipSpaceSameEndFromInsideTheRunSpec)

/-- ITS FALSE NEIGHBOUR: 'it returns false'. Refute it at one input. -/
def fnSkipSpaceSameEndFromInsideTheRunWrong : ChangeSpec := { name := "fnSkipSpaceSameEndFromInsideTheRun", fn := fun _ => fun
  | [d1, d2, d3] => { results := [.lit (.bool false)], args := [d1, d2, d3] }
  | _ => none }
def FnSkipSpaceSameEndFromInsideTheRunWrongFalsely : Prop := fnSkipSpaceSameEndFromInsideTheRunRow.holds Try.pinned (OpenSpec.ofChange fnSkipSpaceSameEndFromInsideTheRunWrong)

end Rows
end Go.Proofs.Qxb6603472a

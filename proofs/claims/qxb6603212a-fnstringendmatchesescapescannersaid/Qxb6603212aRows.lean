/-
  No cell of these rows narrows 'for every input' (looked for: loops, veiled, ifaces, maps, wideKeys, modest, calm, conditions, laid).
  DERIVED. THE GIVEN ROWS OF THIS SEAT. 7 by the template 'for every input the law returns true; each argument reads behind the call as it read before'; 0 by the template 'total and deterministic' (their statements: Qxb6603212aTotals.lean).
  GIVEN WITH THE SEED: the statements are not yours to turn. If you find one false, say at which input.
  Laid BY PROGRAM, IN A SANDBOX (cutbox-rows.mjs): the forced cells as the released guide's own fill.sh prints them over the translation f52c61c3318854d1… (all of the seat's roots in one cut). By AI agents, Wed Nov 11 2026. No macro, syntax, notation, axiom, sorry.
-/
import Derived.Test.Qxb6603212aChecked
import GoSem.Claim
import GoSem.ClaimJoined
import GoSem.ClaimMapViews
import Derived.JoinedTies
import Derived.KernelRfl
namespace Go.Proofs.Qxb6603212a
/- THE CELL 'sum', in the pinned program and in every row, IS THE sha256 OF THE DUMP (.gsa) THAT Qxb6603212aProg.lean LOADS. Nothing in Lean hashes anything: it is a label: what it is worth is what the hold of that sum in a sandbox is worth. -/
noncomputable def Try.pinned : Pinned := { name := "qxb6603212a", sum := "f52c61c3318854d1a55c6e8608fa57c248e27c20d07895fdfa6d0f7d907fa71f", checked := Try.checked }
namespace Rows
def none {H : Type} : Left H := { results := [], args := [] }

/-- 'zzlaws_internal_strictjson_b1.FnScalarEndMatchesGrammarAutomaton': WHATEVER THE INPUT: true; the input reads as it did. -/
def fnScalarEndMatchesGrammarAutomatonSpec : ChangeSpec := { name := "fnScalarEndMatchesGrammarAutomaton", fn := fun _ => fun
  | [d1, d2] => { results := [.lit (.bool true)], args := [d1, d2] }
  | _ => none }
def fnScalarEndMatchesGrammarAutomatonRow : OpenClaim := { program := "qxb6603212a", sum := "f52c61c3318854d1a55c6e8608fa57c248e27c20d07895fdfa6d0f7d907fa71f", func := "example.com/quorumframe/quorumframe/zzlaws_internal_strictjson_b1.FnScalarEndMatchesGrammarAutomaton", spec := "fnScalarEndMatchesGrammarAutomaton", apart := false }
def FnScalarEndMatchesGrammarAutomatonSaid : Prop := fnScalarEndMatchesGrammarAutomatonRow.holds Try.pinned (OpenSpec.ofChange fnScalarEndMatchesGrammarAutomatonSpec)

/-- ITS FALSE NEIGHBOUR: 'it returns false'. Refute it at one input. -/
def fnScalarEndMatchesGrammarAutomatonWrong : ChangeSpec := { name := "fnScalarEndMatchesGrammarAutomaton", fn := fun _ => fun
  | [d1, d2] => { results := [.lit (.bool false)], args := [d1, d2] }
  | _ => none }
def FnScalarEndMatchesGrammarAutomatonWrongFalsely : Prop := fnScalarEndMatchesGrammarAutomatonRow.holds Try.pinned (OpenSpec.ofChange fnScalarEndMatchesGrammarAutomatonWrong)

/-- 'zzlaws_internal_strictjson_b1.FnScalarEndCutShort': WHATEVER THE INPUT: true; the input reads as it did. -/
def fnScalarEndCutShortSpec : ChangeSpec := { name := "fnScalarEndCutShort", fn := fun _ => fun
  | [d1, d2, d3] => { results := [.lit (.bool true)], args := [d1, d2, d3] }
  | _ => none }
def fnScalarEndCutShortRow : OpenClaim := { program := "qxb6603212a", sum := "f52c61c3318854d1a55c6e8608fa57c248e27c20d07895fdfa6d0f7d907fa71f", func := "example.com/quorumframe/quorumframe/zzlaws_internal_strictjson_b1.FnScalarEndCutShort", spec := "fnScalarEndCutShort", apart := false }
def FnScalarEndCutShortSaid : Prop := fnScalarEndCutShortRow.holds Try.pinned (OpenSpec.ofChange fnScalarEndCutShortSpec)

/-- ITS FALSE NEIGHBOUR: 'it returns false'. Refute it at one input. -/
def fnScalarEndCutShortWrong : ChangeSpec := { name := "fnScalarEndCutShort", fn := fun _ => fun
  | [d1, d2, d3] => { results := [.lit (.bool false)], args := [d1, d2, d3] }
  | _ => none }
def FnScalarEndCutShortWrongFalsely : Prop := fnScalarEndCutShortRow.holds Try.pinned (OpenSpec.ofChange fnScalarEndCutShortWrong)

/-- 'zzlaws_internal_strictjson_b1.FnStringEndMatchesEscapeScanner': WHATEVER THE INPUT: true; the input reads as it did. -/
def fnStringEndMatchesEscapeScannerSpec : ChangeSpec := { name := "fnStringEndMatchesEscapeScanner", fn := fun _ => fun
  | [d1, d2] => { results := [.lit (.bool true)], args := [d1, d2] }
  | _ => none }
def fnStringEndMatchesEscapeScannerRow : OpenClaim := { program := "qxb6603212a", sum := "f52c61c3318854d1a55c6e8608fa57c248e27c20d07895fdfa6d0f7d907fa71f", func := "example.com/quorumframe/quorumframe/zzlaws_internal_strictjson_b1.FnStringEndMatchesEscapeScanner", spec := "fnStringEndMatchesEscapeScanner", inPlace := ["internal/bytealg.IndexByte"], apart := false }
def FnStringEndMatchesEscapeScannerSaid : Prop := fnStringEndMatchesEscapeScannerRow.holds Try.pinned (OpenSpec.ofChange fnStringEndMatchesEscapeScannerSpec)

/-- ITS FALSE NEIGHBOUR: 'it returns false'. Refute it at one input. -/
def fnStringEndMatchesEscapeScannerWrong : ChangeSpec := { name := "fnStringEndMatchesEscapeScanner", fn := fun _ => fun
  | [d1, d2] => { results := [.lit (.bool false)], args := [d1, d2] }
  | _ => none }
def FnStringEndMatchesEscapeScannerWrongFalsely : Prop := fnStringEndMatchesEscapeScannerRow.holds Try.pinned (OpenSpec.ofChange fnStringEndMatchesEscapeScannerWrong)

/-- 'zzlaws_internal_strictjson_b1.FnStringEndCutShort': WHATEVER THE INPUT: true; the input reads as it did. -/
def fnStringEndCutShortSpec : ChangeSpec := { name := "fnStringEndCutShort", fn := fun _ => fun
  | [d1, d2, d3] => { results := [.lit (.bool true)], args := [d1, d2, d3] }
  | _ => none }
def fnStringEndCutShortRow : OpenClaim := { program := "qxb6603212a", sum := "f52c61c3318854d1a55c6e8608fa57c248e27c20d07895fdfa6d0f7d907fa71f", func := "example.com/quorumframe/quorumframe/zzlaws_internal_strictjson_b1.FnStringEndCutShort", spec := "fnStringEndCutShort", inPlace := ["internal/bytealg.IndexByte"], apart := false }
def FnStringEndCutShortSaid : Prop := fnStringEndCutShortRow.holds Try.pinned (OpenSpec.ofChange fnStringEndCutShortSpec)

/-- ITS FALSE NEIGHBOUR: 'it returns false'. Refute it at one input. -/
def fnStringEndCutShortWrong : ChangeSpec := { name := "fnStringEndCutShort", fn := fun _ => fun
  | [d1, d2, d3] => { results := [.lit (.bool false)], args := [d1, d2, d3] }
  | _ => none }
def FnStringEndCutShortWrongFalsely : Prop := fnStringEndCutShortRow.holds Try.pinned (OpenSpec.ofChange fnStringEndCutShortWrong)

/-- 'zzlaws_internal_strictjson_b1.FnValueEndMatchesOnePassScanner': WHATEVER THE INPUT: true; the input reads as it did. -/
def fnValueEndMatchesOnePassScannerSpec : ChangeSpec := { name := "fnValueEndMatchesOnePassScanner", fn := fun _ => fun
  | [d] => { results := [.lit (.bool true)], args := [d] }
  | _ => none }
def fnValueEndMatchesOnePassScannerRow : OpenClaim := { program := "qxb6603212a", sum := "f52c61c3318854d1a55c6e8608fa57c248e27c20d07895fdfa6d0f7d907fa71f", func := "example.com/quorumframe/quorumframe/zzlaws_internal_strictjson_b1.FnValueEndMatchesOnePassScanner", spec := "fnValueEndMatchesOnePassScanner", inPlace := ["internal/bytealg.IndexByte"], apart := false }
def FnValueEndMatchesOnePassScannerSaid : Prop := fnValueEndMatchesOnePassScannerRow.holds Try.pinned (OpenSpec.ofChange fnValueEndMatchesOnePassScannerSpec)

/-- ITS FALSE NEIGHBOUR: 'it returns false'. Refute it at one input. -/
def fnValueEndMatchesOnePassScannerWrong : ChangeSpec := { name := "fnValueEndMatchesOnePassScanner", fn := fun _ => fun
  | [d] => { results := [.lit (.bool false)], args := [d] }
  | _ => none }
def FnValueEndMatchesOnePassScannerWrongFalsely : Prop := fnValueEndMatchesOnePassScannerRow.holds Try.pinned (OpenSpec.ofChange fnValueEndMatchesOnePassScannerWrong)

/-- 'zzlaws_internal_strictjson_b1.FnValueEndCutShort': WHATEVER THE INPUT: true; the input reads as it did. -/
def fnValueEndCutShortSpec : ChangeSpec := { name := "fnValueEndCutShort", fn := fun _ => fun
  | [d1, d2] => { results := [.lit (.bool true)], args := [d1, d2] }
  | _ => none }
def fnValueEndCutShortRow : OpenClaim := { program := "qxb6603212a", sum := "f52c61c3318854d1a55c6e8608fa57c248e27c20d07895fdfa6d0f7d907fa71f", func := "example.com/quorumframe/quorumframe/zzlaws_internal_strictjson_b1.FnValueEndCutShort", spec := "fnValueEndCutShort", inPlace := ["internal/bytealg.IndexByte"], apart := false }
def FnValueEndCutShortSaid : Prop := fnValueEndCutShortRow.holds Try.pinned (OpenSpec.ofChange fnValueEndCutShortSpec)

/-- ITS FALSE NEIGHBOUR: 'it returns false'. Refute it at one input. -/
def fnValueEndCutShortWrong : ChangeSpec := { name := "fnValueEndCutShort", fn := fun _ => fun
  | [d1, d2] => { results := [.lit (.bool false)], args := [d1, d2] }
  | _ => none }
def FnValueEndCutShortWrongFalsely : Prop := fnValueEndCutShortRow.holds Try.pinned (OpenSpec.ofChange fnValueEndCutShortWrong)

/-- 'zzlaws_internal_strictjson_b1.FnValueEndLeadingSpaceShifts': WHATEVER THE INPUT: true; the input reads as it did. -/
def fnValueEndLeadingSpaceShiftsSpec : ChangeSpec := { name := "fnValueEndLeadingSpaceShifts", fn := fun _ => fun
  | [d1, d2] => { results := [.lit (.bool true)], args := [d1, d2] }
  | _ => none }
def fnValueEndLeadingSpaceShiftsRow : OpenClaim := { program := "qxb6603212a", sum := "f52c61c3318854d1a55c6e8608fa57c248e27c20d07895fdfa6d0f7d907fa71f", func := "example.com/quorumframe/quorumframe/zzlaws_internal_strictjson_b1.FnValueEndLeadingSpaceShifts", spec := "fnValueEndLeadingSpaceShifts", inPlace := ["internal/bytealg.IndexByte"], apart := false }
def FnValueEndLeadingSpaceShiftsSaid : Prop := fnValueEndLeadingSpaceShiftsRow.holds Try.pinned (OpenSpec.ofChange fnValueEndLeadingSpaceShiftsSpec)

/-- ITS FALSE NEIGHBOUR: 'it returns false'. Refute it at one input. -/
def fnValueEndLeadingSpaceShiftsWrong : ChangeSpec := { name := "fnValueEndLeadingSpaceShifts", fn := fun _ => fun
  | [d1, d2] => { results := [.lit (.bool false)], args := [d1, d2] }
  | _ => none }
def FnValueEndLeadingSpaceShiftsWrongFalsely : Prop := fnValueEndLeadingSpaceShiftsRow.holds Try.pinned (OpenSpec.ofChange fnValueEndLeadingSpaceShiftsWrong)

end Rows
end Go.Proofs.Qxb6603212a

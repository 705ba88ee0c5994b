/-
  No cell of these rows narrows 'for every input' (looked for: loops, veiled, ifaces, maps, wideKeys, modest, calm, conditions, laid).
  DERIVED. THE GIVEN ROWS OF THIS SEAT. 7 by the template 'for every input the law returns true; each argument reads behind the call as it read before'; 0 by the template 'total and deterministic' (their statements: Qxb6602462aTotals.lean).
  GIVEN WITH THE SEED: the statements are not yours to turn. If you find one false, say at which input.
  Laid BY PROGRAM, IN A SANDBOX (cutbox-rows.mjs): the forced cells as the released guide's own fill.sh prints them over the translation 099e68a4ddc28d36… (all of the seat's roots in one cut). By AI agents, Wed Nov 11 2026. No macro, syntax, notation, axiom, sorry.
-/
import Derived.Test.Qxb6602462aChecked
import GoSem.Claim
import GoSem.ClaimJoined
import GoSem.ClaimMapViews
import Derived.JoinedTies
import Derived.KernelRfl
namespace Go.Proofs.Qxb6602462a
/- THE CELL 'sum', in the pinned program and in every row, IS THE sha256 OF THE DUMP (.gsa) THAT Qxb6602462aProg.lean LOADS. Nothing in Lean hashes anything: it is a label: what it is worth is what the hold of that sum in a sandbox is worth. -/
noncomputable def Try.pinned : Pinned := { name := "qxb6602462a", sum := "099e68a4ddc28d3632b0e714ac6a77e0114ae7dd2e3e2deb66b81910874c24cb", checked := Try.checked }
namespace Rows
def none {H : Type} : Left H := { results := [], args := [] }

/-- 'zzlaws_root_b1.FnDigitsAsWildcardsMatchesRunModel': WHATEVER THE INPUT: true; the input reads as it did. -/
def fnDigitsAsWildcardsMatchesRunModelSpec : ChangeSpec := { name := "fnDigitsAsWildcardsMatchesRunModel", fn := fun _ => fun
  | [d] => { results := [.lit (.bool true)], args := [d] }
  | _ => none }
def fnDigitsAsWildcardsMatchesRunModelRow : OpenClaim := { program := "qxb6602462a", sum := "099e68a4ddc28d3632b0e714ac6a77e0114ae7dd2e3e2deb66b81910874c24cb", func := "example.com/bucket-access-check/bucket-access-check/zzlaws_root_b1.FnDigitsAsWildcardsMatchesRunModel", spec := "fnDigitsAsWildcardsMatchesRunModel", apart := false }
def FnDigitsAsWildcardsMatchesRunModelSaid : Prop := fnDigitsAsWildcardsMatchesRunModelRow.holds Try.pinned (OpenSpec.ofChange fnDigitsAsWildcardsMatchesRunModelSpec)

/-- ITS FALSE NEIGHBOUR: 'it returns false'. Refute it at one input. -/
def fnDigitsAsWildcardsMatchesRunModelWrong : ChangeSpec := { name := "fnDigitsAsWildcardsMatchesRunModel", fn := fun _ => fun
  | [d] => { results := [.lit (.bool false)], args := [d] }
  | _ => none }
def FnDigitsAsWildcardsMatchesRunModelWrongFalsely : Prop := fnDigitsAsWildcardsMatchesRunModelRow.holds Try.pinned (OpenSpec.ofChange fnDigitsAsWildcardsMatchesRunModelWrong)

/-- 'zzlaws_root_b1.FnDigitsAsWildcardsIdempotent': WHATEVER THE INPUT: true; the input reads as it did. -/
def fnDigitsAsWildcardsIdempotentSpec : ChangeSpec := { name := "fnDigitsAsWildcardsIdempotent", fn := fun _ => fun
  | [d] => { results := [.lit (.bool true)], args := [d] }
  | _ => none }
def fnDigitsAsWildcardsIdempotentRow : OpenClaim := { program := "qxb6602462a", sum := "099e68a4ddc28d3632b0e714ac6a77e0114ae7dd2e3e2deb66b81910874c24cb", func := "example.com/bucket-access-check/bucket-access-check/zzlaws_root_b1.FnDigitsAsWildcardsIdempotent", spec := "fnDigitsAsWildcardsIdempotent", apart := false }
def FnDigitsAsWildcardsIdempotentSaid : Prop := fnDigitsAsWildcardsIdempotentRow.holds Try.pinned (OpenSpec.ofChange fnDigitsAsWildcardsIdempotentSpec)

/-- ITS FALSE NEIGHBOUR: 'it returns false'. Refute it at one input. -/
def fnDigitsAsWildcardsIdempotentWrong : ChangeSpec := { name := "fnDigitsAsWildcardsIdempotent", fn := fun _ => fun
  | [d] => { results := [.lit (.bool false)], args := [d] }
  | _ => none }
def FnDigitsAsWildcardsIdempotentWrongFalsely : Prop := fnDigitsAsWildcardsIdempotentRow.holds Try.pinned (OpenSpec.ofChange fnDigitsAsWildcardsIdempotentWrong)

/-- 'zzlaws_root_b1.FnDigitsAsWildcardsSplitsAtNonDigit': WHATEVER THE INPUT: true; the input reads as it did. -/
def fnDigitsAsWildcardsSplitsAtNonDigitSpec : ChangeSpec := { name := "fnDigitsAsWildcardsSplitsAtNonDigit", fn := fun _ => fun
  | [d1, d2, d3] => { results := [.lit (.bool true)], args := [d1, d2, d3] }
  | _ => none }
def fnDigitsAsWildcardsSplitsAtNonDigitRow : OpenClaim := { program := "qxb6602462a", sum := "099e68a4ddc28d3632b0e714ac6a77e0114ae7dd2e3e2deb66b81910874c24cb", func := "example.com/bucket-access-check/bucket-access-check/zzlaws_root_b1.FnDigitsAsWildcardsSplitsAtNonDigit", spec := "fnDigitsAsWildcardsSplitsAtNonDigit", apart := false }
def FnDigitsAsWildcardsSplitsAtNonDigitSaid : Prop := fnDigitsAsWildcardsSplitsAtNonDigitRow.holds Try.pinned (OpenSpec.ofChange fnDigitsAsWildcardsSplitsAtNonDigitSpec)

/-- ITS FALSE NEIGHBOUR: 'it returns false'. Refute it at one input. -/
def fnDigitsAsWildcardsSplitsAtNonDigitWrong : ChangeSpec := { name := "fnDigitsAsWildcardsSplitsAtNonDigit", fn := fun _ => fun
  | [d1, d2, d3] => { results := [.lit (.bool false)], args := [d1, d2, d3] }
  | _ => none }
def FnDigitsAsWildcardsSplitsAtNonDigitWrongFalsely : Prop := fnDigitsAsWildcardsSplitsAtNonDigitRow.holds Try.pinned (OpenSpec.ofChange fnDigitsAsWildcardsSplitsAtNonDigitWrong)

/-- 'zzlaws_root_b1.FnLineReaderNextReturnsLongestNewlineFreeRun': WHATEVER THE INPUT: true; the input reads as it did. -/
def fnLineReaderNextReturnsLongestNewlineFreeRunSpec : ChangeSpec := { name := "fnLineReaderNextReturnsLongestNewlineFreeRun", fn := fun _ => fun
  | [d1, d2] => { results := [.lit (.bool true)], args := [d1, d2] }
  | _ => none }
def fnLineReaderNextReturnsLongestNewlineFreeRunRow : OpenClaim := { program := "qxb6602462a", sum := "099e68a4ddc28d3632b0e714ac6a77e0114ae7dd2e3e2deb66b81910874c24cb", func := "example.com/bucket-access-check/bucket-access-check/zzlaws_root_b1.FnLineReaderNextReturnsLongestNewlineFreeRun", spec := "fnLineReaderNextReturnsLongestNewlineFreeRun", inPlace := ["internal/bytealg.IndexByte"], apart := false }
def FnLineReaderNextReturnsLongestNewlineFreeRunSaid : Prop := fnLineReaderNextReturnsLongestNewlineFreeRunRow.holds Try.pinned (OpenSpec.ofChange fnLineReaderNextReturnsLongestNewlineFreeRunSpec)

/-- ITS FALSE NEIGHBOUR: 'it returns false'. Refute it at one input. -/
def fnLineReaderNextReturnsLongestNewlineFreeRunWrong : ChangeSpec := { name := "fnLineReaderNextReturnsLongestNewlineFreeRun", fn := fun _ => fun
  | [d1, d2] => { results := [.lit (.bool false)], args := [d1, d2] }
  | _ => none }
def FnLineReaderNextReturnsLongestNewlineFreeRunWrongFalsely : Prop := fnLineReaderNextReturnsLongestNewlineFreeRunRow.holds Try.pinned (OpenSpec.ofChange fnLineReaderNextReturnsLongestNewlineFreeRunWrong)

/-- 'zzlaws_root_b1.FnLineReaderLinesRejoinToText': WHATEVER THE INPUT: true; the input reads as it did. -/
def fnLineReaderLinesRejoinToTextSpec : ChangeSpec := { name := "fnLineReaderLinesRejoinToText", fn := fun _ => fun
  | [d] => { results := [.lit (.bool true)], args := [d] }
  | _ => none }
def fnLineReaderLinesRejoinToTextRow : OpenClaim := { program := "qxb6602462a", sum := "099e68a4ddc28d3632b0e714ac6a77e0114ae7dd2e3e2deb66b81910874c24cb", func := "example.com/bucket-access-check/bucket-access-check/zzlaws_root_b1.FnLineReaderLinesRejoinToText", spec := "fnLineReaderLinesRejoinToText", inPlace := ["internal/bytealg.IndexByte"], apart := false }
def FnLineReaderLinesRejoinToTextSaid : Prop := fnLineReaderLinesRejoinToTextRow.holds Try.pinned (OpenSpec.ofChange fnLineReaderLinesRejoinToTextSpec)

/-- ITS FALSE NEIGHBOUR: 'it returns false'. Refute it at one input. -/
def fnLineReaderLinesRejoinToTextWrong : ChangeSpec := { name := "fnLineReaderLinesRejoinToText", fn := fun _ => fun
  | [d] => { results := [.lit (.bool false)], args := [d] }
  | _ => none }
def FnLineReaderLinesRejoinToTextWrongFalsely : Prop := fnLineReaderLinesRejoinToTextRow.holds Try.pinned (OpenSpec.ofChange fnLineReaderLinesRejoinToTextWrong)

/-- 'zzlaws_root_b1.FnDocumentStartMatchesMarkerModel': WHATEVER THE INPUT: true; the input reads as it did. -/
def fnDocumentStartMatchesMarkerModelSpec : ChangeSpec := { name := "fnDocumentStartMatchesMarkerModel", fn := fun _ => fun
  | [d] => { results := [.lit (.bool true)], args := [d] }
  | _ => none }
def fnDocumentStartMatchesMarkerModelRow : OpenClaim := { program := "qxb6602462a", sum := "099e68a4ddc28d3632b0e714ac6a77e0114ae7dd2e3e2deb66b81910874c24cb", func := "example.com/bucket-access-check/bucket-access-check/zzlaws_root_b1.FnDocumentStartMatchesMarkerModel", spec := "fnDocumentStartMatchesMarkerModel", inPlace := ["internal/bytealg.IndexByte"], apart := false }
def FnDocumentStartMatchesMarkerModelSaid : Prop := fnDocumentStartMatchesMarkerModelRow.holds Try.pinned (OpenSpec.ofChange fnDocumentStartMatchesMarkerModelSpec)

/-- ITS FALSE NEIGHBOUR: 'it returns false'. Refute it at one input. -/
def fnDocumentStartMatchesMarkerModelWrong : ChangeSpec := { name := "fnDocumentStartMatchesMarkerModel", fn := fun _ => fun
  | [d] => { results := [.lit (.bool false)], args := [d] }
  | _ => none }
def FnDocumentStartMatchesMarkerModelWrongFalsely : Prop := fnDocumentStartMatchesMarkerModelRow.holds Try.pinned (OpenSpec.ofChange fnDocumentStartMatchesMarkerModelWrong)

/-- 'zzlaws_root_b1.FnDocumentStartOverConcatenatedLines': WHATEVER THE INPUT: true; the input reads as it did. -/
def fnDocumentStartOverConcatenatedLinesSpec : ChangeSpec := { name := "fnDocumentStartOverConcatenatedLines", fn := fun _ => fun
  | [d1, d2] => { results := [.lit (.bool true)], args := [d1, d2] }
  | _ => none }
def fnDocumentStartOverConcatenatedLinesRow : OpenClaim := { program := "qxb6602462a", sum := "099e68a4ddc28d3632b0e714ac6a77e0114ae7dd2e3e2deb66b81910874c24cb", func := "example.com/bucket-access-check/bucket-access-check/zzlaws_root_b1.FnDocumentStartOverConcatenatedLines", spec := "fnDocumentStartOverConcatenatedLines", inPlace := ["internal/bytealg.IndexByte"], apart := false }
def FnDocumentStartOverConcatenatedLinesSaid : Prop := fnDocumentStartOverConcatenatedLinesRow.holds Try.pinned (OpenSpec.ofChange fnDocumentStartOverConcatenatedLinesSpec)

/-- ITS FALSE NEIGHBOUR: 'it returns false'. Refute it at one input. -/
def fnDocumentStartOverConcatenatedLinesWrong : ChangeSpec := { name := "fnDocumentStartOverConcatenatedLines", fn := fun _ => fun
  | [d1, d2] => { results := [.lit (.bool false)], args := [d1, d2] }
  | _ => none }
def FnDocumentStartOverConcatenatedLinesWrongFalsely : Prop := fnDocumentStartOverConcatenatedLinesRow.holds Try.pinned (OpenSpec.ofChange fnDocumentStartOverConcatenatedLinesWrong)

end Rows
end Go.Proofs.Qxb6602462a

/-
  No cell of these rows narrows 'for every input' (looked for: loops, veiled, ifaces, maps, wideKeys, modest, calm, conditions, laid).
  DERIVED. THE GIVEN ROWS OF THIS SEAT. 5 by the template 'for every input the law returns true; each argument reads behind the call as it read before'; 0 by the template 'total and deterministic' (their statements: Qxb6605498aTotals.lean).
  GIVEN WITH THE SEED: the statements are not yours to turn. If you find one false, say at which input.
  Laid BY PROGRAM, IN A SANDBOX (cutbox-rows.mjs): the forced cells as the released guide's own fill.sh prints them over the translation 3d675c009819139e… (all of the seat's roots in one cut). By AI agents, Wed Nov 11 2026. No macro, syntax, notation, axiom, sorry.
-/
import Derived.Test.Qxb6605498aChecked
import GoSem.Claim
import GoSem.ClaimJoined
import GoSem.ClaimMapViews
import Derived.JoinedTies
import Derived.KernelRfl
namespace Go.Proofs.Qxb6605498a
/- THE CELL 'sum', in the pinned program and in every row, IS THE sha256 OF THE DUMP (.gsa) THAT Qxb6605498aProg.lean LOADS. Nothing in Lean hashes anything: it is a label: what it is worth is what the hold of that sum in a sandbox is worth. -/
noncomputable def Try.pinned : Pinned := { name := "qxb6605498a", sum := "3d675c009819139ec4f2c7cda4a3c23875b442bcd4d6c493687282bdd0069f3c", checked := Try.checked }
namespace Rows
def none {H : Type} : Left H := { results := [], args := [] }

/-- 'zzlaws_internal_jsonval_b1.FnScanNumberMatchesAutomaton': WHATEVER THE INPUT: true; the input reads as it did. -/
def fnScanNumberMatchesAutomatonSpec : ChangeSpec := { name := "fnScanNumberMatchesAutomaton", fn := fun _ => fun
  | [d1, d2] => { results := [.lit (.bool true)], args := [d1, d2] }
  | _ => none }
def fnScanNumberMatchesAutomatonRow : OpenClaim := { program := "qxb6605498a", sum := "3d675c009819139ec4f2c7cda4a3c23875b442bcd4d6c493687282bdd0069f3c", func := "example.com/chorale/chorale/zzlaws_internal_jsonval_b1.FnScanNumberMatchesAutomaton", spec := "fnScanNumberMatchesAutomaton", apart := false }
def FnScanNumberMatchesAutomatonSaid : Prop := fnScanNumberMatchesAutomatonRow.holds Try.pinned (OpenSpec.ofChange fnScanNumberMatchesAutomatonSpec)

/-- ITS FALSE NEIGHBOUR: 'it returns false'. Refute it at one input. -/
def fnScanNumberMatchesAutomatonWrong : ChangeSpec := { name := "fnScanNumberMatchesAutomaton", fn := fun _ => fun
  | [d1, d2] => { results := [.lit (.bool false)], args := [d1, d2] }
  | _ => none }
def FnScanNumberMatchesAutomatonWrongFalsely : Prop := fnScanNumberMatchesAutomatonRow.holds Try.pinned (OpenSpec.ofChange fnScanNumberMatchesAutomatonWrong)

/-- 'zzlaws_internal_jsonval_b1.FnScanNumberReadsOnlyItsOwnBytes': WHATEVER THE INPUT: true; the input reads as it did. -/
def fnScanNumberReadsOnlyItsOwnBytesSpec : ChangeSpec := { name := "fnScanNumberReadsOnlyItsOwnBytes", fn := fun _ => fun
  | [d1, d2] => { results := [.lit (.bool true)], args := [d1, d2] }
  | _ => none }
def fnScanNumberReadsOnlyItsOwnBytesRow : OpenClaim := { program := "qxb6605498a", sum := "3d675c009819139ec4f2c7cda4a3c23875b442bcd4d6c493687282bdd0069f3c", func := "example.com/chorale/chorale/zzlaws_internal_jsonval_b1.FnScanNumberReadsOnlyItsOwnBytes", spec := "fnScanNumberReadsOnlyItsOwnBytes", apart := false }
def FnScanNumberReadsOnlyItsOwnBytesSaid : Prop := fnScanNumberReadsOnlyItsOwnBytesRow.holds Try.pinned (OpenSpec.ofChange fnScanNumberReadsOnlyItsOwnBytesSpec)

/-- ITS FALSE NEIGHBOUR: 'it returns false'. Refute it at one input. -/
def fnScanNumberReadsOnlyItsOwnBytesWrong : ChangeSpec := { name := "fnScanNumberReadsOnlyItsOwnBytes", fn := fun _ => fun
  | [d1, d2] => { results := [.lit (.bool false)], args := [d1, d2] }
  | _ => none }
def FnScanNumberReadsOnlyItsOwnBytesWrongFalsely : Prop := fnScanNumberReadsOnlyItsOwnBytesRow.holds Try.pinned (OpenSpec.ofChange fnScanNumberReadsOnlyItsOwnBytesWrong)

/-- 'zzlaws_internal_jsonval_b1.FnHex4MatchesDigitTable': WHATEVER THE INPUT: true; the input reads as it did. -/
def fnHex4MatchesDigitTableSpec : ChangeSpec := { name := "fnHex4MatchesDigitTable", fn := fun _ => fun
  | [d1, d2] => { results := [.lit (.bool true)], args := [d1, d2] }
  | _ => none }
def fnHex4MatchesDigitTableRow : OpenClaim := { program := "qxb6605498a", sum := "3d675c009819139ec4f2c7cda4a3c23875b442bcd4d6c493687282bdd0069f3c", func := "example.com/chorale/chorale/zzlaws_internal_jsonval_b1.FnHex4MatchesDigitTable", spec := "fnHex4MatchesDigitTable", apart := false }
def FnHex4MatchesDigitTableSaid : Prop := fnHex4MatchesDigitTableRow.holds Try.pinned (OpenSpec.ofChange fnHex4MatchesDigitTableSpec)

/-- ITS FALSE NEIGHBOUR: 'it returns false'. Refute it at one input. -/
def fnHex4MatchesDigitTableWrong : ChangeSpec := { name := "fnHex4MatchesDigitTable", fn := fun _ => fun
  | [d1, d2] => { results := [.lit (.bool false)], args := [d1, d2] }
  | _ => none }
def FnHex4MatchesDigitTableWrongFalsely : Prop := fnHex4MatchesDigitTableRow.holds Try.pinned (OpenSpec.ofChange fnHex4MatchesDigitTableWrong)

/-- 'zzlaws_internal_jsonval_b1.FnHex4ReadsBackWhatIsWritten': WHATEVER THE INPUT: true; the input reads as it did. -/
def fnHex4ReadsBackWhatIsWrittenSpec : ChangeSpec := { name := "fnHex4ReadsBackWhatIsWritten", fn := fun _ => fun
  | [d1, d2, d3, d4] => { results := [.lit (.bool true)], args := [d1, d2, d3, d4] }
  | _ => none }
def fnHex4ReadsBackWhatIsWrittenRow : OpenClaim := { program := "qxb6605498a", sum := "3d675c009819139ec4f2c7cda4a3c23875b442bcd4d6c493687282bdd0069f3c", func := "example.com/chorale/chorale/zzlaws_internal_jsonval_b1.FnHex4ReadsBackWhatIsWritten", spec := "fnHex4ReadsBackWhatIsWritten", apart := false }
def FnHex4ReadsBackWhatIsWrittenSaid : Prop := fnHex4ReadsBackWhatIsWrittenRow.holds Try.pinned (OpenSpec.ofChange fnHex4ReadsBackWhatIsWrittenSpec)

/-- ITS FALSE NEIGHBOUR: 'it returns false'. Refute it at one input. -/
def fnHex4ReadsBackWhatIsWrittenWrong : ChangeSpec := { name := "fnHex4ReadsBackWhatIsWritten", fn := fun _ => fun
  | [d1, d2, d3, d4] => { results := [.lit (.bool false)], args := [d1, d2, d3, d4] }
  | _ => none }
def FnHex4ReadsBackWhatIsWrittenWrongFalsely : Prop := fnHex4ReadsBackWhatIsWrittenRow.holds Try.pinned (OpenSpec.ofChange fnHex4ReadsBackWhatIsWrittenWrong)

/-- 'zzlaws_internal_jsonval_b1.FnUnescapedInvertsJSONEscapes': WHATEVER THE INPUT: true; the input reads as it did. -/
def fnUnescapedInvertsJSONEscapesSpec : ChangeSpec := { name := "fnUnescapedInvertsJSONEscapes", fn := fun _ => fun
  | [d] => { results := [.lit (.bool true)], args := [d] }
  | _ => none }
def fnUnescapedInvertsJSONEscapesRow : OpenClaim := { program := "qxb6605498a", sum := "3d675c009819139ec4f2c7cda4a3c23875b442bcd4d6c493687282bdd0069f3c", func := "example.com/chorale/chorale/zzlaws_internal_jsonval_b1.FnUnescapedInvertsJSONEscapes", spec := "fnUnescapedInvertsJSONEscapes", apart := false }
def FnUnescapedInvertsJSONEscapesSaid : Prop := fnUnescapedInvertsJSONEscapesRow.holds Try.pinned (OpenSpec.ofChange fnUnescapedInvertsJSONEscapesSpec)

/-- ITS FALSE NEIGHBOUR: 'it returns false'. Refute it at one input. -/
def fnUnescapedInvertsJSONEscapesWrong : ChangeSpec := { name := "fnUnescapedInvertsJSONEscapes", fn := fun _ => fun
  | [d] => { results := [.lit (.bool false)], args := [d] }
  | _ => none }
def FnUnescapedInvertsJSONEscapesWrongFalsely : Prop := fnUnescapedInvertsJSONEscapesRow.holds Try.pinned (OpenSpec.ofChange fnUnescapedInvertsJSONEscapesWrong)

end Rows
end Go.Proofs.Qxb6605498a

/-
  No cell of these rows narrows 'for every input' (looked for: loops, veiled, ifaces, maps, wideKeys, modest, calm, conditions, laid).
  DERIVED. THE GIVEN ROWS OF THIS SEAT. 3 by the template 'for every input the law returns true; each argument reads behind the call as it read before'; 0 by the template 'total and deterministic' (their statements: Qxb6606087aTotals.lean).
  GIVEN WITH THE SEED: the statements are not yours to turn. If you find one false, say at which input.
  Laid BY PROGRAM, IN A SANDBOX (cutbox-rows.mjs): the forced cells as the released guide's own fill.sh prints them over the translation c748587f0188d078… (all of the seat's roots in one cut). By AI agents, Wed Nov 11 2026. No macro, syntax, notation, axiom, sorry.
-/
import Derived.Test.Qxb6606087aChecked
import GoSem.Claim
import GoSem.ClaimJoined
import GoSem.ClaimMapViews
import Derived.JoinedTies
import Derived.KernelRfl
namespace Go.Proofs.Qxb6606087a
/- THE CELL 'sum', in the pinned program and in every row, IS THE sha256 OF THE DUMP (.gsa) THAT Qxb6606087aProg.lean LOADS. Nothing in Lean hashes anything: it is a label: what it is worth is what the hold of that sum in a sandbox is worth. -/
noncomputable def Try.pinned : Pinned := { name := "qxb6606087a", sum := "c748587f0188d07855eaac907cfef2c4e90c5b4a757b30df2e5adca17338309e", checked := Try.checked }
namespace Rows
def none {H : Type} : Left H := { results := [], args := [] }

/-- 'zzlaws_packet_b1.FnSkipSpaceIsFirstNonSpaceFromI': WHATEVER THE INPUT: true; the input reads as it did. -/
def fnSkipSpaceIsFirstNonSpaceFromISpec : ChangeSpec := { name := "fnSkipSpaceIsFirstNonSpaceFromI", fn := fun _ => fun
  | [d1, d2] => { results := [.lit (.bool true)], args := [d1, d2] }
  | _ => none }
def fnSkipSpaceIsFirstNonSpaceFromIRow : OpenClaim := { program := "qxb6606087a", sum := "c748587f0188d07855eaac907cfef2c4e90c5b4a757b30df2e5adca17338309e", func := "example.com/wireloom/wireloom/zzlaws_packet_b1.FnSkipSpaceIsFirstNonSpaceFromI", spec := "fnSkipSpaceIsFirstNonSpaceFromI", apart := false }
def FnSkipSpaceIsFirstNonSpaceFromISaid : Prop := fnSkipSpaceIsFirstNonSpaceFromIRow.holds Try.pinned (OpenSpec.ofChange fnSkipSpaceIsFirstNonSpaceFromISpec)

/-- ITS FALSE NEIGHBOUR: 'it returns false'. Refute it at one input. -/
def fnSkipSpaceIsFirstNonSpaceFromIWrong : ChangeSpec := { name := "fnSkipSpaceIsFirstNonSpaceFromI", fn := fun _ => fun
  | [d1, d2] => { results := [.lit (.bool false)], args := [d1, d2] }
  | _ => none }
def FnSkipSpaceIsFirstNonSpaceFromIWrongFalsely : Prop := fnSkipSpaceIsFirstNonSpaceFromIRow.holds Try.pinned (OpenSpec.ofChange fnSkipSpaceIsFirstNonSpaceFromIWrong)

/-- 'zzlaws_packet_b1.FnSkipSpaceIdempotentAndAbsorbing': WHATEVER THE INPUT: true; the input reads as it did. -/
def fnSkipSpaceIdempotentAndAbsorbingSpec : ChangeSpec := { name := "fnSkipSpaceIdempotentAndAbsorbing", fn := fun _ => fun
  | [d1, d2, d3] => { results := [.lit (.bool true)], args := [d1, d2, d3] }
  | _ => none }
def fnSkipSpaceIdempotentAndAbsorbingRow : OpenClaim := { program := "qxb6606087a", sum := "c748587f0188d07855eaac907cfef2c4e90c5b4a757b30df2e5adca17338309e", func := "example.com/wireloom/wireloom/zzlaws_packet_b1.FnSkipSpaceIdempotentAndAbsorbing", spec := "fnSkipSpaceIdempotentAndAbsorbing", apart := false }
def FnSkipSpaceIdempotentAndAbsorbingSaid : Prop := fnSkipSpaceIdempotentAndAbsorbingRow.holds Try.pinned (OpenSpec.ofChange fnSkipSpaceIdempotentAndAbsorbingSpec)

/-- ITS FALSE NEIGHBOUR: 'it returns false'. Refute it at one input. -/
def fnSkipSpaceIdempotentAndAbsorbingWrong : ChangeSpec := { name := "fnSkipSpaceIdempotentAndAbsorbing", fn := fun _ => fun
  | [d1, d2, d3] => { results := [.lit (.bool false)], args := [d1, d2, d3] }
  | _ => none }
def FnSkipSpaceIdempotentAndAbsorbingWrongFalsely : Prop := fnSkipSpaceIdempotentAndAbsorbingRow.holds Try.pinned (OpenSpec.ofChange fnSkipSpaceIdempotentAndAbsorbingWrong)

/-- 'zzlaws_packet_b1.FnSkipSpaceComposesOverConcatenation': WHATEVER THE INPUT: true; the input reads as it did. -/
def fnSkipSpaceComposesOverConcatenationSpec : ChangeSpec := { name := "fnSkipSpaceComposesOverConcatenation", fn := fun _ => fun
  | [d1, d2, d3, d4] => { results := [.lit (.bool true)], args := [d1, d2, d3, d4] }
  | _ => none }
def fnSkipSpaceComposesOverConcatenationRow : OpenClaim := { program := "qxb6606087a", sum := "c748587f0188d07855eaac907cfef2c4e90c5b4a757b30df2e5adca17338309e", func := "example.com/wireloom/wireloom/zzlaws_packet_b1.FnSkipSpaceComposesOverConcatenation", spec := "fnSkipSpaceComposesOverConcatenation", apart := false }
def FnSkipSpaceComposesOverConcatenationSaid : Prop := fnSkipSpaceComposesOverConcatenationRow.holds Try.pinned (OpenSpec.ofChange fnSkipSpaceComposesOverConcatenationSpec)

/-- ITS FALSE NEIGHBOUR: 'it returns false'. Refute it at one input. -/
def fnSkipSpaceComposesOverConcatenationWrong : ChangeSpec := { name := "fnSkipSpaceComposesOverConcatenation", fn := fun _ => fun
  | [d1, d2, d3, d4] => { results := [.lit (.bool false)], args := [d1, d2, d3, d4] }
  | _ => none }
def FnSkipSpaceComposesOverConcatenationWrongFalsely : Prop := fnSkipSpaceComposesOverConcatenationRow.holds Try.pinned (OpenSpec.ofChange fnSkipSpaceComposesOverConcatenationWrong)

end Rows
end Go.Proofs.Qxb6606087a

/-
  No cell of these rows narrows 'for every input' (looked for: loops, veiled, ifaces, maps, wideKeys, modest, calm, conditions, laid).
  DERIVED. THE GIVEN ROWS OF THIS SEAT. 4 by the template 'for every input the law returns true; each argument reads behind the call as it read before'; 0 by the template 'total and deterministic' (their statements: Qxb6606393aTotals.lean).
  GIVEN WITH THE SEED: the statements are not yours to turn. If you find one false, say at which input.
  Laid BY PROGRAM, IN A SANDBOX (cutbox-rows.mjs): the forced cells as the released guide's own fill.sh prints them over the translation 6d9418cbf6a76301… (all of the seat's roots in one cut). By AI agents, Wed Nov 11 2026. No macro, syntax, notation, axiom, sorry.
-/
import Derived.Test.Qxb6606393aChecked
import GoSem.Claim
import GoSem.ClaimJoined
import GoSem.ClaimMapViews
import Derived.JoinedTies
import Derived.KernelRfl
namespace Go.Proofs.Qxb6606393a
/- THE CELL 'sum', in the pinned program and in every row, IS THE sha256 OF THE DUMP (.gsa) THAT Qxb6606393aProg.lean LOADS. Nothing in Lean hashes anything: it is a label: what it is worth is what the hold of that sum in a sandbox is worth. -/
noncomputable def Try.pinned : Pinned := { name := "qxb6606393a", sum := "6d9418cbf6a76301b5a9310035530a2d0dca5493eaaa5d2a707c57424e284294", checked := Try.checked }
namespace Rows
def none {H : Type} : Left H := { results := [], args := [] }

/-- 'zzlaws_http1_b1.FnParseLengthOrderMatchesDigitOrder': WHATEVER THE INPUT: true; the input reads as it did. -/
def fnParseLengthOrderMatchesDigitOrderSpec : ChangeSpec := { name := "fnParseLengthOrderMatchesDigitOrder", fn := fun _ => fun
  | [d1, d2] => { results := [.lit (.bool true)], args := [d1, d2] }
  | _ => none }
def fnParseLengthOrderMatchesDigitOrderRow : OpenClaim := { program := "qxb6606393a", sum := "6d9418cbf6a76301b5a9310035530a2d0dca5493eaaa5d2a707c57424e284294", func := "example.com/service-circuit-breaker/service-circuit-breaker/zzlaws_http1_b1.FnParseLengthOrderMatchesDigitOrder", spec := "fnParseLengthOrderMatchesDigitOrder", apart := false }
def FnParseLengthOrderMatchesDigitOrderSaid : Prop := fnParseLengthOrderMatchesDigitOrderRow.holds Try.pinned (OpenSpec.ofChange fnParseLengthOrderMatchesDigitOrderSpec)

/-- ITS FALSE NEIGHBOUR: 'it returns false'. Refute it at one input. -/
def fnParseLengthOrderMatchesDigitOrderWrong : ChangeSpec := { name := "fnParseLengthOrderMatchesDigitOrder", fn := fun _ => fun
  | [d1, d2] => { results := [.lit (.bool false)], args := [d1, d2] }
  | _ => none }
def FnParseLengthOrderMatchesDigitOrderWrongFalsely : Prop := fnParseLengthOrderMatchesDigitOrderRow.holds Try.pinned (OpenSpec.ofChange fnParseLengthOrderMatchesDigitOrderWrong)

/-- 'zzlaws_http1_b1.FnParseLengthAgreesWithHexValueOnOneByte': WHATEVER THE INPUT: true; the input reads as it did. -/
def fnParseLengthAgreesWithHexValueOnOneByteSpec : ChangeSpec := { name := "fnParseLengthAgreesWithHexValueOnOneByte", fn := fun _ => fun
  | [d] => { results := [.lit (.bool true)], args := [d] }
  | _ => none }
def fnParseLengthAgreesWithHexValueOnOneByteRow : OpenClaim := { program := "qxb6606393a", sum := "6d9418cbf6a76301b5a9310035530a2d0dca5493eaaa5d2a707c57424e284294", func := "example.com/service-circuit-breaker/service-circuit-breaker/zzlaws_http1_b1.FnParseLengthAgreesWithHexValueOnOneByte", spec := "fnParseLengthAgreesWithHexValueOnOneByte", apart := false }
def FnParseLengthAgreesWithHexValueOnOneByteSaid : Prop := fnParseLengthAgreesWithHexValueOnOneByteRow.holds Try.pinned (OpenSpec.ofChange fnParseLengthAgreesWithHexValueOnOneByteSpec)

/-- ITS FALSE NEIGHBOUR: 'it returns false'. Refute it at one input. -/
def fnParseLengthAgreesWithHexValueOnOneByteWrong : ChangeSpec := { name := "fnParseLengthAgreesWithHexValueOnOneByte", fn := fun _ => fun
  | [d] => { results := [.lit (.bool false)], args := [d] }
  | _ => none }
def FnParseLengthAgreesWithHexValueOnOneByteWrongFalsely : Prop := fnParseLengthAgreesWithHexValueOnOneByteRow.holds Try.pinned (OpenSpec.ofChange fnParseLengthAgreesWithHexValueOnOneByteWrong)

/-- 'zzlaws_http1_b1.FnBodyLengthReportsOnlyWhatItWasGiven': WHATEVER THE INPUT: true; the input reads as it did. -/
def fnBodyLengthReportsOnlyWhatItWasGivenSpec : ChangeSpec := { name := "fnBodyLengthReportsOnlyWhatItWasGiven", fn := fun _ => fun
  | [d1, d2, d3, d4, d5] => { results := [.lit (.bool true)], args := [d1, d2, d3, d4, d5] }
  | _ => none }
def fnBodyLengthReportsOnlyWhatItWasGivenRow : OpenClaim := { program := "qxb6606393a", sum := "6d9418cbf6a76301b5a9310035530a2d0dca5493eaaa5d2a707c57424e284294", func := "example.com/service-circuit-breaker/service-circuit-breaker/zzlaws_http1_b1.FnBodyLengthReportsOnlyWhatItWasGiven", spec := "fnBodyLengthReportsOnlyWhatItWasGiven", apart := false }
def FnBodyLengthReportsOnlyWhatItWasGivenSaid : Prop := fnBodyLengthReportsOnlyWhatItWasGivenRow.holds Try.pinned (OpenSpec.ofChange fnBodyLengthReportsOnlyWhatItWasGivenSpec)

/-- ITS FALSE NEIGHBOUR: 'it returns false'. Refute it at one input. -/
def fnBodyLengthReportsOnlyWhatItWasGivenWrong : ChangeSpec := { name := "fnBodyLengthReportsOnlyWhatItWasGiven", fn := fun _ => fun
  | [d1, d2, d3, d4, d5] => { results := [.lit (.bool false)], args := [d1, d2, d3, d4, d5] }
  | _ => none }
def FnBodyLengthReportsOnlyWhatItWasGivenWrongFalsely : Prop := fnBodyLengthReportsOnlyWhatItWasGivenRow.holds Try.pinned (OpenSpec.ofChange fnBodyLengthReportsOnlyWhatItWasGivenWrong)

/-- 'zzlaws_http1_b1.FnBodyLengthStatusGatesAndChunkedOverridesLength': WHATEVER THE INPUT: true; the input reads as it did. -/
def fnBodyLengthStatusGatesAndChunkedOverridesLengthSpec : ChangeSpec := { name := "fnBodyLengthStatusGatesAndChunkedOverridesLength", fn := fun _ => fun
  | [d1, d2, d3, d4, d5] => { results := [.lit (.bool true)], args := [d1, d2, d3, d4, d5] }
  | _ => none }
def fnBodyLengthStatusGatesAndChunkedOverridesLengthRow : OpenClaim := { program := "qxb6606393a", sum := "6d9418cbf6a76301b5a9310035530a2d0dca5493eaaa5d2a707c57424e284294", func := "example.com/service-circuit-breaker/service-circuit-breaker/zzlaws_http1_b1.FnBodyLengthStatusGatesAndChunkedOverridesLength", spec := "fnBodyLengthStatusGatesAndChunkedOverridesLength", apart := false }
def FnBodyLengthStatusGatesAndChunkedOverridesLengthSaid : Prop := fnBodyLengthStatusGatesAndChunkedOverridesLengthRow.holds Try.pinned (OpenSpec.ofChange fnBodyLengthStatusGatesAndChunkedOverridesLengthSpec)

/-- ITS FALSE NEIGHBOUR: 'it returns false'. Refute it at one input. -/
def fnBodyLengthStatusGatesAndChunkedOverridesLengthWrong : ChangeSpec := { name := "fnBodyLengthStatusGatesAndChunkedOverridesLength", fn := fun _ => fun
  | [d1, d2, d3, d4, d5] => { results := [.lit (.bool false)], args := [d1, d2, d3, d4, d5] }
  | _ => none }
def FnBodyLengthStatusGatesAndChunkedOverridesLengthWrongFalsely : Prop := fnBodyLengthStatusGatesAndChunkedOverridesLengthRow.holds Try.pinned (OpenSpec.ofChange fnBodyLengthStatusGatesAndChunkedOverridesLengthWrong)

end Rows
end Go.Proofs.Qxb6606393a

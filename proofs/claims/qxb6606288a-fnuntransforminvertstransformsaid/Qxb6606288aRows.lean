/-
  No cell of these rows narrows 'for every input' (looked for: loops, veiled, ifaces, maps, wideKeys, modest, calm, conditions, laid).
  DERIVED. THE GIVEN ROWS OF THIS SEAT. 3 by the template 'for every input the law returns true; each argument reads behind the call as it read before'; 0 by the template 'total and deterministic' (their statements: Qxb6606288aTotals.lean).
  GIVEN WITH THE SEED: the statements are not yours to turn. If you find one false, say at which input.
  Laid BY PROGRAM, IN A SANDBOX (cutbox-rows.mjs): the forced cells as the released guide's own fill.sh prints them over the translation f13d90123ad2026f… (all of the seat's roots in one cut). By AI agents, Wed Nov 11 2026. No macro, syntax, notation, axiom, sorry.
-/
import Derived.Test.Qxb6606288aChecked
import GoSem.Claim
import GoSem.ClaimJoined
import GoSem.ClaimMapViews
import Derived.JoinedTies
import Derived.KernelRfl
namespace Go.Proofs.Qxb6606288a
/- THE CELL 'sum', in the pinned program and in every row, IS THE sha256 OF THE DUMP (.gsa) THAT Qxb6606288aProg.lean LOADS. Nothing in Lean hashes anything: it is a label: what it is worth is what the hold of that sum in a sandbox is worth. -/
noncomputable def Try.pinned : Pinned := { name := "qxb6606288a", sum := "f13d90123ad2026f15cadd4fe5fc9e6a5b2500fb0e544dd5f2dc84b88a9b5255", checked := Try.checked }
namespace Rows
def none {H : Type} : Left H := { results := [], args := [] }

/-- 'zzlaws_internal_squeeze_b1.FnUntransformInvertsTransform': WHATEVER THE INPUT: true; the input reads as it did. -/
def fnUntransformInvertsTransformSpec : ChangeSpec := { name := "fnUntransformInvertsTransform", fn := fun _ => fun
  | [d] => { results := [.lit (.bool true)], args := [d] }
  | _ => none }
def fnUntransformInvertsTransformRow : OpenClaim := { program := "qxb6606288a", sum := "f13d90123ad2026f15cadd4fe5fc9e6a5b2500fb0e544dd5f2dc84b88a9b5255", func := "example.com/haversack/haversack/zzlaws_internal_squeeze_b1.FnUntransformInvertsTransform", spec := "fnUntransformInvertsTransform", recurses := true, apart := false }
def FnUntransformInvertsTransformSaid : Prop := fnUntransformInvertsTransformRow.holds Try.pinned (OpenSpec.ofChange fnUntransformInvertsTransformSpec)

/-- ITS FALSE NEIGHBOUR: 'it returns false'. Refute it at one input. -/
def fnUntransformInvertsTransformWrong : ChangeSpec := { name := "fnUntransformInvertsTransform", fn := fun _ => fun
  | [d] => { results := [.lit (.bool false)], args := [d] }
  | _ => none }
def FnUntransformInvertsTransformWrongFalsely : Prop := fnUntransformInvertsTransformRow.holds Try.pinned (OpenSpec.ofChange fnUntransformInvertsTransformWrong)

/-- 'zzlaws_internal_squeeze_b1.FnUntransformSafeOnAnyInput': WHATEVER THE INPUT: true; the input reads as it did. -/
def fnUntransformSafeOnAnyInputSpec : ChangeSpec := { name := "fnUntransformSafeOnAnyInput", fn := fun _ => fun
  | [d1, d2] => { results := [.lit (.bool true)], args := [d1, d2] }
  | _ => none }
def fnUntransformSafeOnAnyInputRow : OpenClaim := { program := "qxb6606288a", sum := "f13d90123ad2026f15cadd4fe5fc9e6a5b2500fb0e544dd5f2dc84b88a9b5255", func := "example.com/haversack/haversack/zzlaws_internal_squeeze_b1.FnUntransformSafeOnAnyInput", spec := "fnUntransformSafeOnAnyInput", apart := false }
def FnUntransformSafeOnAnyInputSaid : Prop := fnUntransformSafeOnAnyInputRow.holds Try.pinned (OpenSpec.ofChange fnUntransformSafeOnAnyInputSpec)

/-- ITS FALSE NEIGHBOUR: 'it returns false'. Refute it at one input. -/
def fnUntransformSafeOnAnyInputWrong : ChangeSpec := { name := "fnUntransformSafeOnAnyInput", fn := fun _ => fun
  | [d1, d2] => { results := [.lit (.bool false)], args := [d1, d2] }
  | _ => none }
def FnUntransformSafeOnAnyInputWrongFalsely : Prop := fnUntransformSafeOnAnyInputRow.holds Try.pinned (OpenSpec.ofChange fnUntransformSafeOnAnyInputWrong)

/-- 'zzlaws_internal_squeeze_b1.FnUntransformReusedUnsorterAgreesWithFresh': WHATEVER THE INPUT: true; the input reads as it did. -/
def fnUntransformReusedUnsorterAgreesWithFreshSpec : ChangeSpec := { name := "fnUntransformReusedUnsorterAgreesWithFresh", fn := fun _ => fun
  | [d1, d2, d3, d4] => { results := [.lit (.bool true)], args := [d1, d2, d3, d4] }
  | _ => none }
def fnUntransformReusedUnsorterAgreesWithFreshRow : OpenClaim := { program := "qxb6606288a", sum := "f13d90123ad2026f15cadd4fe5fc9e6a5b2500fb0e544dd5f2dc84b88a9b5255", func := "example.com/haversack/haversack/zzlaws_internal_squeeze_b1.FnUntransformReusedUnsorterAgreesWithFresh", spec := "fnUntransformReusedUnsorterAgreesWithFresh", apart := false }
def FnUntransformReusedUnsorterAgreesWithFreshSaid : Prop := fnUntransformReusedUnsorterAgreesWithFreshRow.holds Try.pinned (OpenSpec.ofChange fnUntransformReusedUnsorterAgreesWithFreshSpec)

/-- ITS FALSE NEIGHBOUR: 'it returns false'. Refute it at one input. -/
def fnUntransformReusedUnsorterAgreesWithFreshWrong : ChangeSpec := { name := "fnUntransformReusedUnsorterAgreesWithFresh", fn := fun _ => fun
  | [d1, d2, d3, d4] => { results := [.lit (.bool false)], args := [d1, d2, d3, d4] }
  | _ => none }
def FnUntransformReusedUnsorterAgreesWithFreshWrongFalsely : Prop := fnUntransformReusedUnsorterAgreesWithFreshRow.holds Try.pinned (OpenSpec.ofChange fnUntransformReusedUnsorterAgreesWithFreshWrong)

end Rows
end Go.Proofs.Qxb6606288a

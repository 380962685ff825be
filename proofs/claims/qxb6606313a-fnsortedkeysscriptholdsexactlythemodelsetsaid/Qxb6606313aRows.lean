/-
  No cell of these rows narrows 'for every input' (looked for: loops, veiled, ifaces, maps, wideKeys, modest, calm, conditions, laid).
  DERIVED. THE GIVEN ROWS OF THIS SEAT. 3 by the template 'for every input the law returns true; each argument reads behind the call as it read before'; 0 by the template 'total and deterministic' (their statements: Qxb6606313aTotals.lean).
  GIVEN WITH THE SEED: the statements are not yours to turn. If you find one false, say at which input.
  Laid BY PROGRAM, IN A SANDBOX (cutbox-rows.mjs): the forced cells as the released guide's own fill.sh prints them over the translation 105ef193efe8569b… (all of the seat's roots in one cut). By AI agents, Wed Nov 11 2026. No macro, syntax, notation, axiom, sorry.
-/
import Derived.Test.Qxb6606313aChecked
import GoSem.Claim
import GoSem.ClaimJoined
import GoSem.ClaimMapViews
import Derived.JoinedTies
import Derived.KernelRfl
namespace Go.Proofs.Qxb6606313a
/- THE CELL 'sum', in the pinned program and in every row, IS THE sha256 OF THE DUMP (.gsa) THAT Qxb6606313aProg.lean LOADS. Nothing in Lean hashes anything: it is a label: what it is worth is what the hold of that sum in a sandbox is worth. -/
noncomputable def Try.pinned : Pinned := { name := "qxb6606313a", sum := "105ef193efe8569b3b006e04845d1b5fb0c29fad840e7f5b402028dd7e2aee37", checked := Try.checked }
namespace Rows
def none {H : Type} : Left H := { results := [], args := [] }

/-- 'zzlaws_pkg_kv_b1.FnSortedKeysAddHoldsExactlyItsKeysInOrder': WHATEVER THE INPUT: true; the input reads as it did. -/
def fnSortedKeysAddHoldsExactlyItsKeysInOrderSpec : ChangeSpec := { name := "fnSortedKeysAddHoldsExactlyItsKeysInOrder", fn := fun _ => fun
  | [d] => { results := [.lit (.bool true)], args := [d] }
  | _ => none }
def fnSortedKeysAddHoldsExactlyItsKeysInOrderRow : OpenClaim := { program := "qxb6606313a", sum := "105ef193efe8569b3b006e04845d1b5fb0c29fad840e7f5b402028dd7e2aee37", func := "example.com/keelhold/keelhold/zzlaws_pkg_kv_b1.FnSortedKeysAddHoldsExactlyItsKeysInOrder", spec := "fnSortedKeysAddHoldsExactlyItsKeysInOrder", inPlace := ["internal/bytealg.abigen_runtime_cmpstring", "slices.overlaps[string]", "slices.overlaps[[]string]"], unfollowed := true, recurses := true, apart := false }
def FnSortedKeysAddHoldsExactlyItsKeysInOrderSaid : Prop := fnSortedKeysAddHoldsExactlyItsKeysInOrderRow.holds Try.pinned (OpenSpec.ofChange fnSortedKeysAddHoldsExactlyItsKeysInOrderSpec)

/-- ITS FALSE NEIGHBOUR: 'it returns false'. Refute it at one input. -/
def fnSortedKeysAddHoldsExactlyItsKeysInOrderWrong : ChangeSpec := { name := "fnSortedKeysAddHoldsExactlyItsKeysInOrder", fn := fun _ => fun
  | [d] => { results := [.lit (.bool false)], args := [d] }
  | _ => none }
def FnSortedKeysAddHoldsExactlyItsKeysInOrderWrongFalsely : Prop := fnSortedKeysAddHoldsExactlyItsKeysInOrderRow.holds Try.pinned (OpenSpec.ofChange fnSortedKeysAddHoldsExactlyItsKeysInOrderWrong)

/-- 'zzlaws_pkg_kv_b1.FnSortedKeysAddKeepsBlocksOrderedAndHalfFull': WHATEVER THE INPUT: true; the input reads as it did. -/
def fnSortedKeysAddKeepsBlocksOrderedAndHalfFullSpec : ChangeSpec := { name := "fnSortedKeysAddKeepsBlocksOrderedAndHalfFull", fn := fun _ => fun
  | [d] => { results := [.lit (.bool true)], args := [d] }
  | _ => none }
def fnSortedKeysAddKeepsBlocksOrderedAndHalfFullRow : OpenClaim := { program := "qxb6606313a", sum := "105ef193efe8569b3b006e04845d1b5fb0c29fad840e7f5b402028dd7e2aee37", func := "example.com/keelhold/keelhold/zzlaws_pkg_kv_b1.FnSortedKeysAddKeepsBlocksOrderedAndHalfFull", spec := "fnSortedKeysAddKeepsBlocksOrderedAndHalfFull", inPlace := ["internal/bytealg.abigen_runtime_cmpstring", "slices.overlaps[string]", "slices.overlaps[[]string]"], unfollowed := true, recurses := true, apart := false }
def FnSortedKeysAddKeepsBlocksOrderedAndHalfFullSaid : Prop := fnSortedKeysAddKeepsBlocksOrderedAndHalfFullRow.holds Try.pinned (OpenSpec.ofChange fnSortedKeysAddKeepsBlocksOrderedAndHalfFullSpec)

/-- ITS FALSE NEIGHBOUR: 'it returns false'. Refute it at one input. -/
def fnSortedKeysAddKeepsBlocksOrderedAndHalfFullWrong : ChangeSpec := { name := "fnSortedKeysAddKeepsBlocksOrderedAndHalfFull", fn := fun _ => fun
  | [d] => { results := [.lit (.bool false)], args := [d] }
  | _ => none }
def FnSortedKeysAddKeepsBlocksOrderedAndHalfFullWrongFalsely : Prop := fnSortedKeysAddKeepsBlocksOrderedAndHalfFullRow.holds Try.pinned (OpenSpec.ofChange fnSortedKeysAddKeepsBlocksOrderedAndHalfFullWrong)

/-- 'zzlaws_pkg_kv_b1.FnSortedKeysScriptHoldsExactlyTheModelSet': WHATEVER THE INPUT: true; the input reads as it did. -/
def fnSortedKeysScriptHoldsExactlyTheModelSetSpec : ChangeSpec := { name := "fnSortedKeysScriptHoldsExactlyTheModelSet", fn := fun _ => fun
  | [d1, d2] => { results := [.lit (.bool true)], args := [d1, d2] }
  | _ => none }
def fnSortedKeysScriptHoldsExactlyTheModelSetRow : OpenClaim := { program := "qxb6606313a", sum := "105ef193efe8569b3b006e04845d1b5fb0c29fad840e7f5b402028dd7e2aee37", func := "example.com/keelhold/keelhold/zzlaws_pkg_kv_b1.FnSortedKeysScriptHoldsExactlyTheModelSet", spec := "fnSortedKeysScriptHoldsExactlyTheModelSet", inPlace := ["internal/bytealg.abigen_runtime_cmpstring", "slices.overlaps[string]", "slices.overlaps[[]string]"], unfollowed := true, recurses := true, apart := false }
def FnSortedKeysScriptHoldsExactlyTheModelSetSaid : Prop := fnSortedKeysScriptHoldsExactlyTheModelSetRow.holds Try.pinned (OpenSpec.ofChange fnSortedKeysScriptHoldsExactlyTheModelSetSpec)

/-- ITS FALSE NEIGHBOUR: 'it returns false'. Refute it at one input. -/
def fnSortedKeysScriptHoldsExactlyTheModelSetWrong : ChangeSpec := { name := "fnSortedKeysScriptHoldsExactlyTheModelSet", fn := fun _ => fun
  | [d1, d2] => { results := [.lit (.bool false)], args := [d1, d2] }
  | _ => none }
def FnSortedKeysScriptHoldsExactlyTheModelSetWrongFalsely : Prop := fnSortedKeysScriptHoldsExactlyTheModelSetRow.holds Try.pinned (OpenSpec.ofChange fnSortedKeysScriptHoldsExactlyTheModelSetWrong)

end Rows
end Go.Proofs.Qxb6606313a

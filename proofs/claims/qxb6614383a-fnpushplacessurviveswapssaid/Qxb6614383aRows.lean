/-
  No cell of these rows narrows 'for every input' (looked for: loops, veiled, ifaces, maps, wideKeys, modest, calm, conditions, laid).
  DERIVED. THE GIVEN ROWS OF THIS SEAT. 4 by the template 'for every input the law returns true; each argument reads behind the call as it read before'; 0 by the template 'total and deterministic' (their statements: Qxb6614383aTotals.lean).
  GIVEN WITH THE SEED: the statements are not yours to turn. If you find one false, say at which input.
  Laid BY PROGRAM, IN A SANDBOX (cutbox-rows.mjs): the forced cells as the released guide's own fill.sh prints them over the translation 5dfe02f3728931b2… (all of the seat's roots in one cut). By AI agents, Wed Nov 11 2026. No macro, syntax, notation, axiom, sorry.
-/
import Derived.Test.Qxb6614383aChecked
import GoSem.Claim
import GoSem.ClaimJoined
import GoSem.ClaimMapViews
import Derived.JoinedTies
import Derived.KernelRfl
namespace Go.Proofs.Qxb6614383a
/- THE CELL 'sum', in the pinned program and in every row, IS THE sha256 OF THE DUMP (.gsa) THAT Qxb6614383aProg.lean LOADS. Nothing in Lean hashes anything: it is a label: what it is worth is what the hold of that sum in a sandbox is worth. -/
noncomputable def Try.pinned : Pinned := { name := "qxb6614383a", sum := "5dfe02f3728931b2f561f970e27c5d37e5e7a46059301d1969915d8bb9826c8c", checked := Try.checked }
namespace Rows
def none {H : Type} : Left H := { results := [], args := [] }

/-- 'zzlaws_internal_store_b1.FnBytesCutAtAnyPoint': WHATEVER THE INPUT: true; the input reads as it did. -/
def fnBytesCutAtAnyPointSpec : ChangeSpec := { name := "fnBytesCutAtAnyPoint", fn := fun _ => fun
  | [d1, d2, d3, d4] => { results := [.lit (.bool true)], args := [d1, d2, d3, d4] }
  | _ => none }
def fnBytesCutAtAnyPointRow : OpenClaim := { program := "qxb6614383a", sum := "5dfe02f3728931b2f561f970e27c5d37e5e7a46059301d1969915d8bb9826c8c", func := "example.com/tidemark/tidemark/zzlaws_internal_store_b1.FnBytesCutAtAnyPoint", spec := "fnBytesCutAtAnyPoint", plainKeys := false, apart := false }
def FnBytesCutAtAnyPointSaid : Prop := fnBytesCutAtAnyPointRow.holds Try.pinned (OpenSpec.ofChange fnBytesCutAtAnyPointSpec)

/-- ITS FALSE NEIGHBOUR: 'it returns false'. Refute it at one input. -/
def fnBytesCutAtAnyPointWrong : ChangeSpec := { name := "fnBytesCutAtAnyPoint", fn := fun _ => fun
  | [d1, d2, d3, d4] => { results := [.lit (.bool false)], args := [d1, d2, d3, d4] }
  | _ => none }
def FnBytesCutAtAnyPointWrongFalsely : Prop := fnBytesCutAtAnyPointRow.holds Try.pinned (OpenSpec.ofChange fnBytesCutAtAnyPointWrong)

/-- 'zzlaws_internal_store_b1.FnBytesOfBytesComposes': WHATEVER THE INPUT: true; the input reads as it did. -/
def fnBytesOfBytesComposesSpec : ChangeSpec := { name := "fnBytesOfBytesComposes", fn := fun _ => fun
  | [d1, d2, d3, d4, d5] => { results := [.lit (.bool true)], args := [d1, d2, d3, d4, d5] }
  | _ => none }
def fnBytesOfBytesComposesRow : OpenClaim := { program := "qxb6614383a", sum := "5dfe02f3728931b2f561f970e27c5d37e5e7a46059301d1969915d8bb9826c8c", func := "example.com/tidemark/tidemark/zzlaws_internal_store_b1.FnBytesOfBytesComposes", spec := "fnBytesOfBytesComposes", plainKeys := false, apart := false }
def FnBytesOfBytesComposesSaid : Prop := fnBytesOfBytesComposesRow.holds Try.pinned (OpenSpec.ofChange fnBytesOfBytesComposesSpec)

/-- ITS FALSE NEIGHBOUR: 'it returns false'. Refute it at one input. -/
def fnBytesOfBytesComposesWrong : ChangeSpec := { name := "fnBytesOfBytesComposes", fn := fun _ => fun
  | [d1, d2, d3, d4, d5] => { results := [.lit (.bool false)], args := [d1, d2, d3, d4, d5] }
  | _ => none }
def FnBytesOfBytesComposesWrongFalsely : Prop := fnBytesOfBytesComposesRow.holds Try.pinned (OpenSpec.ofChange fnBytesOfBytesComposesWrong)

/-- 'zzlaws_internal_store_b1.FnPushAppendsInOrder': WHATEVER THE INPUT: true; the input reads as it did. -/
def fnPushAppendsInOrderSpec : ChangeSpec := { name := "fnPushAppendsInOrder", fn := fun _ => fun
  | [d] => { results := [.lit (.bool true)], args := [d] }
  | _ => none }
def fnPushAppendsInOrderRow : OpenClaim := { program := "qxb6614383a", sum := "5dfe02f3728931b2f561f970e27c5d37e5e7a46059301d1969915d8bb9826c8c", func := "example.com/tidemark/tidemark/zzlaws_internal_store_b1.FnPushAppendsInOrder", spec := "fnPushAppendsInOrder", plainKeys := false, apart := false }
def FnPushAppendsInOrderSaid : Prop := fnPushAppendsInOrderRow.holds Try.pinned (OpenSpec.ofChange fnPushAppendsInOrderSpec)

/-- ITS FALSE NEIGHBOUR: 'it returns false'. Refute it at one input. -/
def fnPushAppendsInOrderWrong : ChangeSpec := { name := "fnPushAppendsInOrder", fn := fun _ => fun
  | [d] => { results := [.lit (.bool false)], args := [d] }
  | _ => none }
def FnPushAppendsInOrderWrongFalsely : Prop := fnPushAppendsInOrderRow.holds Try.pinned (OpenSpec.ofChange fnPushAppendsInOrderWrong)

/-- 'zzlaws_internal_store_b1.FnPushPlacesSurviveSwaps': WHATEVER THE INPUT: true; the input reads as it did. -/
def fnPushPlacesSurviveSwapsSpec : ChangeSpec := { name := "fnPushPlacesSurviveSwaps", fn := fun _ => fun
  | [d1, d2, d3, d4] => { results := [.lit (.bool true)], args := [d1, d2, d3, d4] }
  | _ => none }
def fnPushPlacesSurviveSwapsRow : OpenClaim := { program := "qxb6614383a", sum := "5dfe02f3728931b2f561f970e27c5d37e5e7a46059301d1969915d8bb9826c8c", func := "example.com/tidemark/tidemark/zzlaws_internal_store_b1.FnPushPlacesSurviveSwaps", spec := "fnPushPlacesSurviveSwaps", plainKeys := false, apart := false }
def FnPushPlacesSurviveSwapsSaid : Prop := fnPushPlacesSurviveSwapsRow.holds Try.pinned (OpenSpec.ofChange fnPushPlacesSurviveSwapsSpec)

/-- ITS FALSE NEIGHBOUR: 'it returns false'. Refute it at one input. -/
def fnPushPlacesSurviveSwapsWrong : ChangeSpec := { name := "fnPushPlacesSurviveSwaps", fn := fun _ => fun
  | [d1, d2, d3, d4] => { results := [.lit (.bool false)], args := [d1, d2, d3, d4] }
  | _ => none }
def FnPushPlacesSurviveSwapsWrongFalsely : Prop := fnPushPlacesSurviveSwapsRow.holds Try.pinned (OpenSpec.ofChange fnPushPlacesSurviveSwapsWrong)

end Rows
end Go.Proofs.Qxb6614383a

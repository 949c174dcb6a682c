/-
  No cell of these rows narrows 'for every input' (looked for: loops, veiled, ifaces, maps, wideKeys, modest, calm, conditions, laid).
  DERIVED. THE GIVEN ROWS OF THIS SEAT. 3 by the template 'for every input the law returns true; each argument reads behind the call as it read before'; 0 by the template 'total and deterministic' (their statements: Qxb6605784aTotals.lean).
  GIVEN WITH THE SEED: the statements are not yours to turn. If you find one false, say at which input.
  Laid BY PROGRAM, IN A SANDBOX (cutbox-rows.mjs): the forced cells as the released guide's own fill.sh prints them over the translation 45aa841e6cab3636… (all of the seat's roots in one cut). By AI agents, Wed Nov 11 2026. No macro, syntax, notation, axiom, sorry.
-/
import Derived.Test.Qxb6605784aChecked
import GoSem.Claim
import GoSem.ClaimJoined
import GoSem.ClaimMapViews
import Derived.JoinedTies
import Derived.KernelRfl
namespace Go.Proofs.Qxb6605784a
/- THE CELL 'sum', in the pinned program and in every row, IS THE sha256 OF THE DUMP (.gsa) THAT Qxb6605784aProg.lean LOADS. Nothing in Lean hashes anything: it is a label: what it is worth is what the hold of that sum in a sandbox is worth. -/
noncomputable def Try.pinned : Pinned := { name := "qxb6605784a", sum := "45aa841e6cab3636a7f214894a250a6bd7bfd631c2ff071924950e9164667abf", checked := Try.checked }
namespace Rows
def none {H : Type} : Left H := { results := [], args := [] }

/-- 'zzlaws_internal_protocol_b1.FnTwoQuietTicksMakeLate': WHATEVER THE INPUT: true; the input reads as it did. -/
def fnTwoQuietTicksMakeLateSpec : ChangeSpec := { name := "fnTwoQuietTicksMakeLate", fn := fun _ => fun
  | [d1, d2, d3, d4] => { results := [.lit (.bool true)], args := [d1, d2, d3, d4] }
  | _ => none }
def fnTwoQuietTicksMakeLateRow : OpenClaim := { program := "qxb6605784a", sum := "45aa841e6cab3636a7f214894a250a6bd7bfd631c2ff071924950e9164667abf", func := "example.com/sameword/sameword/zzlaws_internal_protocol_b1.FnTwoQuietTicksMakeLate", spec := "fnTwoQuietTicksMakeLate", plainKeys := false, apart := false }
def FnTwoQuietTicksMakeLateSaid : Prop := fnTwoQuietTicksMakeLateRow.holds Try.pinned (OpenSpec.ofChange fnTwoQuietTicksMakeLateSpec)

/-- ITS FALSE NEIGHBOUR: 'it returns false'. Refute it at one input. -/
def fnTwoQuietTicksMakeLateWrong : ChangeSpec := { name := "fnTwoQuietTicksMakeLate", fn := fun _ => fun
  | [d1, d2, d3, d4] => { results := [.lit (.bool false)], args := [d1, d2, d3, d4] }
  | _ => none }
def FnTwoQuietTicksMakeLateWrongFalsely : Prop := fnTwoQuietTicksMakeLateRow.holds Try.pinned (OpenSpec.ofChange fnTwoQuietTicksMakeLateWrong)

/-- 'zzlaws_internal_protocol_b1.FnLeaveOutFirstWinsOverScript': WHATEVER THE INPUT: true; the input reads as it did. -/
def fnLeaveOutFirstWinsOverScriptSpec : ChangeSpec := { name := "fnLeaveOutFirstWinsOverScript", fn := fun _ => fun
  | [d1, d2, d3, d4, d5, d6, d7, d8, d9, d10] => { results := [.lit (.bool true)], args := [d1, d2, d3, d4, d5, d6, d7, d8, d9, d10] }
  | _ => none }
def fnLeaveOutFirstWinsOverScriptRow : OpenClaim := { program := "qxb6605784a", sum := "45aa841e6cab3636a7f214894a250a6bd7bfd631c2ff071924950e9164667abf", func := "example.com/sameword/sameword/zzlaws_internal_protocol_b1.FnLeaveOutFirstWinsOverScript", spec := "fnLeaveOutFirstWinsOverScript", plainKeys := false, apart := false }
def FnLeaveOutFirstWinsOverScriptSaid : Prop := fnLeaveOutFirstWinsOverScriptRow.holds Try.pinned (OpenSpec.ofChange fnLeaveOutFirstWinsOverScriptSpec)

/-- ITS FALSE NEIGHBOUR: 'it returns false'. Refute it at one input. -/
def fnLeaveOutFirstWinsOverScriptWrong : ChangeSpec := { name := "fnLeaveOutFirstWinsOverScript", fn := fun _ => fun
  | [d1, d2, d3, d4, d5, d6, d7, d8, d9, d10] => { results := [.lit (.bool false)], args := [d1, d2, d3, d4, d5, d6, d7, d8, d9, d10] }
  | _ => none }
def FnLeaveOutFirstWinsOverScriptWrongFalsely : Prop := fnLeaveOutFirstWinsOverScriptRow.holds Try.pinned (OpenSpec.ofChange fnLeaveOutFirstWinsOverScriptWrong)

/-- 'zzlaws_internal_protocol_b1.FnKeyReturnsFreshCopy': WHATEVER THE INPUT: true; the input reads as it did. -/
def fnKeyReturnsFreshCopySpec : ChangeSpec := { name := "fnKeyReturnsFreshCopy", fn := fun _ => fun
  | [d1, d2] => { results := [.lit (.bool true)], args := [d1, d2] }
  | _ => none }
def fnKeyReturnsFreshCopyRow : OpenClaim := { program := "qxb6605784a", sum := "45aa841e6cab3636a7f214894a250a6bd7bfd631c2ff071924950e9164667abf", func := "example.com/sameword/sameword/zzlaws_internal_protocol_b1.FnKeyReturnsFreshCopy", spec := "fnKeyReturnsFreshCopy", plainKeys := false, apart := false }
def FnKeyReturnsFreshCopySaid : Prop := fnKeyReturnsFreshCopyRow.holds Try.pinned (OpenSpec.ofChange fnKeyReturnsFreshCopySpec)

/-- ITS FALSE NEIGHBOUR: 'it returns false'. Refute it at one input. -/
def fnKeyReturnsFreshCopyWrong : ChangeSpec := { name := "fnKeyReturnsFreshCopy", fn := fun _ => fun
  | [d1, d2] => { results := [.lit (.bool false)], args := [d1, d2] }
  | _ => none }
def FnKeyReturnsFreshCopyWrongFalsely : Prop := fnKeyReturnsFreshCopyRow.holds Try.pinned (OpenSpec.ofChange fnKeyReturnsFreshCopyWrong)

end Rows
end Go.Proofs.Qxb6605784a

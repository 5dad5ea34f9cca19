/-
  No cell of these rows narrows 'for every input' (looked for: loops, veiled, ifaces, maps, wideKeys, modest, calm, conditions, laid).
  DERIVED. THE GIVEN ROWS OF THIS SEAT. 4 by the template 'for every input the law returns true; each argument reads behind the call as it read before'; 0 by the template 'total and deterministic' (their statements: Qxb6003681aTotals.lean).
  GIVEN WITH THE SEED: the statements are not yours to turn. If you find one false, say at which input.
  Laid BY PROGRAM, IN A SANDBOX (cutbox-rows.mjs): the forced cells as the released guide's own fill.sh prints them over the translation 3a8f938c5f092f13… (all of the seat's roots in one cut). By AI agents, Wed Nov 11 2026. No macro, syntax, notation, axiom, sorry.
-/
import Derived.Test.Qxb6003681aChecked
import GoSem.Claim
import GoSem.ClaimJoined
import GoSem.ClaimMapViews
import Derived.JoinedTies
import Derived.KernelRfl
namespace Go.Proofs.Qxb6003681a
/- THE CELL 'sum', in the pinned program and in every row, IS THE sha256 OF THE DUMP (.gsa) THAT Qxb6003681aProg.lean LOADS. Nothing in Lean hashes anything: it is a label: what it is worth is what the hold of that sum in a sandbox is worth. -/
noncomputable def Try.pinned : Pinned := { name := "qxb6003681a", sum := "3a8f938c5f092f13abe03a28ff11d0a18d5ca34b1fd9c96945949c2ab73b8138", checked := Try.checked }
namespace Rows
def none {H : Type} : Left H := { results := [], args := [] }

/-- 'zzlaws_cyclon_g1.FnMergeKeepsViewWellFormed': WHATEVER THE INPUT: true; the input reads as it did. -/
def fnMergeKeepsViewWellFormedSpec : ChangeSpec := { name := "fnMergeKeepsViewWellFormed", fn := fun _ => fun
  | [d1, d2, d3, d4, d5, d6, d7] => { results := [.lit (.bool true)], args := [d1, d2, d3, d4, d5, d6, d7] }
  | _ => none }
def fnMergeKeepsViewWellFormedRow : OpenClaim := { program := "qxb6003681a", sum := "3a8f938c5f092f13abe03a28ff11d0a18d5ca34b1fd9c96945949c2ab73b8138", func := "example.com/churnweave/churnweave/zzlaws_cyclon_g1.FnMergeKeepsViewWellFormed", spec := "fnMergeKeepsViewWellFormed", unfollowed := true, recurses := true, apart := false }
def FnMergeKeepsViewWellFormedSaid : Prop := fnMergeKeepsViewWellFormedRow.holds Try.pinned (OpenSpec.ofChange fnMergeKeepsViewWellFormedSpec)

/-- ITS FALSE NEIGHBOUR: 'it returns false'. Refute it at one input. -/
def fnMergeKeepsViewWellFormedWrong : ChangeSpec := { name := "fnMergeKeepsViewWellFormed", fn := fun _ => fun
  | [d1, d2, d3, d4, d5, d6, d7] => { results := [.lit (.bool false)], args := [d1, d2, d3, d4, d5, d6, d7] }
  | _ => none }
def FnMergeKeepsViewWellFormedWrongFalsely : Prop := fnMergeKeepsViewWellFormedRow.holds Try.pinned (OpenSpec.ofChange fnMergeKeepsViewWellFormedWrong)

/-- 'zzlaws_cyclon_g1.FnMergeIdempotentWithoutSent': WHATEVER THE INPUT: true; the input reads as it did. -/
def fnMergeIdempotentWithoutSentSpec : ChangeSpec := { name := "fnMergeIdempotentWithoutSent", fn := fun _ => fun
  | [d1, d2, d3, d4, d5, d6] => { results := [.lit (.bool true)], args := [d1, d2, d3, d4, d5, d6] }
  | _ => none }
def fnMergeIdempotentWithoutSentRow : OpenClaim := { program := "qxb6003681a", sum := "3a8f938c5f092f13abe03a28ff11d0a18d5ca34b1fd9c96945949c2ab73b8138", func := "example.com/churnweave/churnweave/zzlaws_cyclon_g1.FnMergeIdempotentWithoutSent", spec := "fnMergeIdempotentWithoutSent", unfollowed := true, recurses := true, apart := false }
def FnMergeIdempotentWithoutSentSaid : Prop := fnMergeIdempotentWithoutSentRow.holds Try.pinned (OpenSpec.ofChange fnMergeIdempotentWithoutSentSpec)

/-- ITS FALSE NEIGHBOUR: 'it returns false'. Refute it at one input. -/
def fnMergeIdempotentWithoutSentWrong : ChangeSpec := { name := "fnMergeIdempotentWithoutSent", fn := fun _ => fun
  | [d1, d2, d3, d4, d5, d6] => { results := [.lit (.bool false)], args := [d1, d2, d3, d4, d5, d6] }
  | _ => none }
def FnMergeIdempotentWithoutSentWrongFalsely : Prop := fnMergeIdempotentWithoutSentRow.holds Try.pinned (OpenSpec.ofChange fnMergeIdempotentWithoutSentWrong)

/-- 'zzlaws_cyclon_g1.FnMergeAnswerConsumesOnce': WHATEVER THE INPUT: true; the input reads as it did. -/
def fnMergeAnswerConsumesOnceSpec : ChangeSpec := { name := "fnMergeAnswerConsumesOnce", fn := fun _ => fun
  | [d1, d2, d3, d4, d5, d6, d7, d8] => { results := [.lit (.bool true)], args := [d1, d2, d3, d4, d5, d6, d7, d8] }
  | _ => none }
def fnMergeAnswerConsumesOnceRow : OpenClaim := { program := "qxb6003681a", sum := "3a8f938c5f092f13abe03a28ff11d0a18d5ca34b1fd9c96945949c2ab73b8138", func := "example.com/churnweave/churnweave/zzlaws_cyclon_g1.FnMergeAnswerConsumesOnce", spec := "fnMergeAnswerConsumesOnce", unfollowed := true, recurses := true, apart := false }
def FnMergeAnswerConsumesOnceSaid : Prop := fnMergeAnswerConsumesOnceRow.holds Try.pinned (OpenSpec.ofChange fnMergeAnswerConsumesOnceSpec)

/-- ITS FALSE NEIGHBOUR: 'it returns false'. Refute it at one input. -/
def fnMergeAnswerConsumesOnceWrong : ChangeSpec := { name := "fnMergeAnswerConsumesOnce", fn := fun _ => fun
  | [d1, d2, d3, d4, d5, d6, d7, d8] => { results := [.lit (.bool false)], args := [d1, d2, d3, d4, d5, d6, d7, d8] }
  | _ => none }
def FnMergeAnswerConsumesOnceWrongFalsely : Prop := fnMergeAnswerConsumesOnceRow.holds Try.pinned (OpenSpec.ofChange fnMergeAnswerConsumesOnceWrong)

/-- 'zzlaws_delivery_g1.FnZeroedReuseScript': WHATEVER THE INPUT: true; the input reads as it did. -/
def fnZeroedReuseScriptSpec : ChangeSpec := { name := "fnZeroedReuseScript", fn := fun _ => fun
  | [d1, d2, d3] => { results := [.lit (.bool true)], args := [d1, d2, d3] }
  | _ => none }
def fnZeroedReuseScriptRow : OpenClaim := { program := "qxb6003681a", sum := "3a8f938c5f092f13abe03a28ff11d0a18d5ca34b1fd9c96945949c2ab73b8138", func := "example.com/churnweave/churnweave/zzlaws_delivery_g1.FnZeroedReuseScript", spec := "fnZeroedReuseScript", apart := false }
def FnZeroedReuseScriptSaid : Prop := fnZeroedReuseScriptRow.holds Try.pinned (OpenSpec.ofChange fnZeroedReuseScriptSpec)

/-- ITS FALSE NEIGHBOUR: 'it returns false'. Refute it at one input. -/
def fnZeroedReuseScriptWrong : ChangeSpec := { name := "fnZeroedReuseScript", fn := fun _ => fun
  | [d1, d2, d3] => { results := [.lit (.bool false)], args := [d1, d2, d3] }
  | _ => none }
def FnZeroedReuseScriptWrongFalsely : Prop := fnZeroedReuseScriptRow.holds Try.pinned (OpenSpec.ofChange fnZeroedReuseScriptWrong)

end Rows
end Go.Proofs.Qxb6003681a

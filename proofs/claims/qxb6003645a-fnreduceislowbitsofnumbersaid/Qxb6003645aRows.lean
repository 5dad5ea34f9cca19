/-
  No cell of these rows narrows 'for every input' (looked for: loops, veiled, ifaces, maps, wideKeys, modest, calm, conditions, laid).
  DERIVED. THE GIVEN ROWS OF THIS SEAT. 6 by the template 'for every input the law returns true; each argument reads behind the call as it read before'; 0 by the template 'total and deterministic' (their statements: Qxb6003645aTotals.lean).
  GIVEN WITH THE SEED: the statements are not yours to turn. If you find one false, say at which input.
  Laid BY PROGRAM, IN A SANDBOX (cutbox-rows.mjs): the forced cells as the released guide's own fill.sh prints them over the translation 1b587468d415b877… (all of the seat's roots in one cut). By AI agents, Wed Nov 11 2026. No macro, syntax, notation, axiom, sorry.
-/
import Derived.Test.Qxb6003645aChecked
import GoSem.Claim
import GoSem.ClaimJoined
import GoSem.ClaimMapViews
import Derived.JoinedTies
import Derived.KernelRfl
namespace Go.Proofs.Qxb6003645a
/- THE CELL 'sum', in the pinned program and in every row, IS THE sha256 OF THE DUMP (.gsa) THAT Qxb6003645aProg.lean LOADS. Nothing in Lean hashes anything: it is a label: what it is worth is what the hold of that sum in a sandbox is worth. -/
noncomputable def Try.pinned : Pinned := { name := "qxb6003645a", sum := "1b587468d415b8770f7bc4f11849dec1f20d686d6b6dc7d133e96e216a88ca14", checked := Try.checked }
namespace Rows
def none {H : Type} : Left H := { results := [], args := [] }

/-- 'zzlaws_internal_ring_b1.FnReduceIsLowBitsOfNumber': WHATEVER THE INPUT: true; the input reads as it did. -/
def fnReduceIsLowBitsOfNumberSpec : ChangeSpec := { name := "fnReduceIsLowBitsOfNumber", fn := fun _ => fun
  | [d1, d2] => { results := [.lit (.bool true)], args := [d1, d2] }
  | _ => none }
def fnReduceIsLowBitsOfNumberRow : OpenClaim := { program := "qxb6003645a", sum := "1b587468d415b8770f7bc4f11849dec1f20d686d6b6dc7d133e96e216a88ca14", func := "example.com/fingerpost/fingerpost/zzlaws_internal_ring_b1.FnReduceIsLowBitsOfNumber", spec := "fnReduceIsLowBitsOfNumber", apart := false }
def FnReduceIsLowBitsOfNumberSaid : Prop := fnReduceIsLowBitsOfNumberRow.holds Try.pinned (OpenSpec.ofChange fnReduceIsLowBitsOfNumberSpec)

/-- ITS FALSE NEIGHBOUR: 'it returns false'. Refute it at one input. -/
def fnReduceIsLowBitsOfNumberWrong : ChangeSpec := { name := "fnReduceIsLowBitsOfNumber", fn := fun _ => fun
  | [d1, d2] => { results := [.lit (.bool false)], args := [d1, d2] }
  | _ => none }
def FnReduceIsLowBitsOfNumberWrongFalsely : Prop := fnReduceIsLowBitsOfNumberRow.holds Try.pinned (OpenSpec.ofChange fnReduceIsLowBitsOfNumberWrong)

/-- 'zzlaws_internal_ring_b1.FnReduceNarrowsByTheLesserWidth': WHATEVER THE INPUT: true; the input reads as it did. -/
def fnReduceNarrowsByTheLesserWidthSpec : ChangeSpec := { name := "fnReduceNarrowsByTheLesserWidth", fn := fun _ => fun
  | [d1, d2, d3] => { results := [.lit (.bool true)], args := [d1, d2, d3] }
  | _ => none }
def fnReduceNarrowsByTheLesserWidthRow : OpenClaim := { program := "qxb6003645a", sum := "1b587468d415b8770f7bc4f11849dec1f20d686d6b6dc7d133e96e216a88ca14", func := "example.com/fingerpost/fingerpost/zzlaws_internal_ring_b1.FnReduceNarrowsByTheLesserWidth", spec := "fnReduceNarrowsByTheLesserWidth", apart := false }
def FnReduceNarrowsByTheLesserWidthSaid : Prop := fnReduceNarrowsByTheLesserWidthRow.holds Try.pinned (OpenSpec.ofChange fnReduceNarrowsByTheLesserWidthSpec)

/-- ITS FALSE NEIGHBOUR: 'it returns false'. Refute it at one input. -/
def fnReduceNarrowsByTheLesserWidthWrong : ChangeSpec := { name := "fnReduceNarrowsByTheLesserWidth", fn := fun _ => fun
  | [d1, d2, d3] => { results := [.lit (.bool false)], args := [d1, d2, d3] }
  | _ => none }
def FnReduceNarrowsByTheLesserWidthWrongFalsely : Prop := fnReduceNarrowsByTheLesserWidthRow.holds Try.pinned (OpenSpec.ofChange fnReduceNarrowsByTheLesserWidthWrong)

/-- 'zzlaws_internal_ring_b1.FnShiftAddsSignedPowerOfTwo': WHATEVER THE INPUT: true; the input reads as it did. -/
def fnShiftAddsSignedPowerOfTwoSpec : ChangeSpec := { name := "fnShiftAddsSignedPowerOfTwo", fn := fun _ => fun
  | [d1, d2, d3, d4] => { results := [.lit (.bool true)], args := [d1, d2, d3, d4] }
  | _ => none }
def fnShiftAddsSignedPowerOfTwoRow : OpenClaim := { program := "qxb6003645a", sum := "1b587468d415b8770f7bc4f11849dec1f20d686d6b6dc7d133e96e216a88ca14", func := "example.com/fingerpost/fingerpost/zzlaws_internal_ring_b1.FnShiftAddsSignedPowerOfTwo", spec := "fnShiftAddsSignedPowerOfTwo", apart := false }
def FnShiftAddsSignedPowerOfTwoSaid : Prop := fnShiftAddsSignedPowerOfTwoRow.holds Try.pinned (OpenSpec.ofChange fnShiftAddsSignedPowerOfTwoSpec)

/-- ITS FALSE NEIGHBOUR: 'it returns false'. Refute it at one input. -/
def fnShiftAddsSignedPowerOfTwoWrong : ChangeSpec := { name := "fnShiftAddsSignedPowerOfTwo", fn := fun _ => fun
  | [d1, d2, d3, d4] => { results := [.lit (.bool false)], args := [d1, d2, d3, d4] }
  | _ => none }
def FnShiftAddsSignedPowerOfTwoWrongFalsely : Prop := fnShiftAddsSignedPowerOfTwoRow.holds Try.pinned (OpenSpec.ofChange fnShiftAddsSignedPowerOfTwoWrong)

/-- 'zzlaws_internal_ring_b1.FnShiftDownUndoesShiftUp': WHATEVER THE INPUT: true; the input reads as it did. -/
def fnShiftDownUndoesShiftUpSpec : ChangeSpec := { name := "fnShiftDownUndoesShiftUp", fn := fun _ => fun
  | [d1, d2, d3] => { results := [.lit (.bool true)], args := [d1, d2, d3] }
  | _ => none }
def fnShiftDownUndoesShiftUpRow : OpenClaim := { program := "qxb6003645a", sum := "1b587468d415b8770f7bc4f11849dec1f20d686d6b6dc7d133e96e216a88ca14", func := "example.com/fingerpost/fingerpost/zzlaws_internal_ring_b1.FnShiftDownUndoesShiftUp", spec := "fnShiftDownUndoesShiftUp", apart := false }
def FnShiftDownUndoesShiftUpSaid : Prop := fnShiftDownUndoesShiftUpRow.holds Try.pinned (OpenSpec.ofChange fnShiftDownUndoesShiftUpSpec)

/-- ITS FALSE NEIGHBOUR: 'it returns false'. Refute it at one input. -/
def fnShiftDownUndoesShiftUpWrong : ChangeSpec := { name := "fnShiftDownUndoesShiftUp", fn := fun _ => fun
  | [d1, d2, d3] => { results := [.lit (.bool false)], args := [d1, d2, d3] }
  | _ => none }
def FnShiftDownUndoesShiftUpWrongFalsely : Prop := fnShiftDownUndoesShiftUpRow.holds Try.pinned (OpenSpec.ofChange fnShiftDownUndoesShiftUpWrong)

/-- 'zzlaws_internal_ring_b1.FnBetweenArcsAreComplementary': WHATEVER THE INPUT: true; the input reads as it did. -/
def fnBetweenArcsAreComplementarySpec : ChangeSpec := { name := "fnBetweenArcsAreComplementary", fn := fun _ => fun
  | [d1, d2, d3] => { results := [.lit (.bool true)], args := [d1, d2, d3] }
  | _ => none }
def fnBetweenArcsAreComplementaryRow : OpenClaim := { program := "qxb6003645a", sum := "1b587468d415b8770f7bc4f11849dec1f20d686d6b6dc7d133e96e216a88ca14", func := "example.com/fingerpost/fingerpost/zzlaws_internal_ring_b1.FnBetweenArcsAreComplementary", spec := "fnBetweenArcsAreComplementary", inPlace := ["internal/bytealg.Compare"], apart := false }
def FnBetweenArcsAreComplementarySaid : Prop := fnBetweenArcsAreComplementaryRow.holds Try.pinned (OpenSpec.ofChange fnBetweenArcsAreComplementarySpec)

/-- ITS FALSE NEIGHBOUR: 'it returns false'. Refute it at one input. -/
def fnBetweenArcsAreComplementaryWrong : ChangeSpec := { name := "fnBetweenArcsAreComplementary", fn := fun _ => fun
  | [d1, d2, d3] => { results := [.lit (.bool false)], args := [d1, d2, d3] }
  | _ => none }
def FnBetweenArcsAreComplementaryWrongFalsely : Prop := fnBetweenArcsAreComplementaryRow.holds Try.pinned (OpenSpec.ofChange fnBetweenArcsAreComplementaryWrong)

/-- 'zzlaws_internal_ring_b1.FnBetweenArcSplitsAtInnerPoint': WHATEVER THE INPUT: true; the input reads as it did. -/
def fnBetweenArcSplitsAtInnerPointSpec : ChangeSpec := { name := "fnBetweenArcSplitsAtInnerPoint", fn := fun _ => fun
  | [d1, d2, d3, d4] => { results := [.lit (.bool true)], args := [d1, d2, d3, d4] }
  | _ => none }
def fnBetweenArcSplitsAtInnerPointRow : OpenClaim := { program := "qxb6003645a", sum := "1b587468d415b8770f7bc4f11849dec1f20d686d6b6dc7d133e96e216a88ca14", func := "example.com/fingerpost/fingerpost/zzlaws_internal_ring_b1.FnBetweenArcSplitsAtInnerPoint", spec := "fnBetweenArcSplitsAtInnerPoint", inPlace := ["internal/bytealg.Compare"], apart := false }
def FnBetweenArcSplitsAtInnerPointSaid : Prop := fnBetweenArcSplitsAtInnerPointRow.holds Try.pinned (OpenSpec.ofChange fnBetweenArcSplitsAtInnerPointSpec)

/-- ITS FALSE NEIGHBOUR: 'it returns false'. Refute it at one input. -/
def fnBetweenArcSplitsAtInnerPointWrong : ChangeSpec := { name := "fnBetweenArcSplitsAtInnerPoint", fn := fun _ => fun
  | [d1, d2, d3, d4] => { results := [.lit (.bool false)], args := [d1, d2, d3, d4] }
  | _ => none }
def FnBetweenArcSplitsAtInnerPointWrongFalsely : Prop := fnBetweenArcSplitsAtInnerPointRow.holds Try.pinned (OpenSpec.ofChange fnBetweenArcSplitsAtInnerPointWrong)

end Rows
end Go.Proofs.Qxb6003645a

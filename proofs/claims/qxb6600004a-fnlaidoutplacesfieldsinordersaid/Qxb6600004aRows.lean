/-
  No cell of these rows narrows 'for every input' (looked for: loops, veiled, ifaces, maps, wideKeys, modest, calm, conditions, laid).
  DERIVED. THE GIVEN ROWS OF THIS SEAT. 8 by the template 'for every input the law returns true; each argument reads behind the call as it read before'; 0 by the template 'total and deterministic' (their statements: Qxb6600004aTotals.lean).
  GIVEN WITH THE SEED: the statements are not yours to turn. If you find one false, say at which input.
  Laid BY PROGRAM, IN A SANDBOX (cutbox-rows.mjs): the forced cells as the released guide's own fill.sh prints them over the translation 3ae6fd4b15b3e16d… (all of the seat's roots in one cut). By AI agents, Wed Nov 11 2026. No macro, syntax, notation, axiom, sorry.
-/
import Derived.Test.Qxb6600004aChecked
import GoSem.Claim
import GoSem.ClaimJoined
import GoSem.ClaimMapViews
import Derived.JoinedTies
import Derived.KernelRfl
namespace Go.Proofs.Qxb6600004a
/- THE CELL 'sum', in the pinned program and in every row, IS THE sha256 OF THE DUMP (.gsa) THAT Qxb6600004aProg.lean LOADS. Nothing in Lean hashes anything: it is a label: what it is worth is what the hold of that sum in a sandbox is worth. -/
noncomputable def Try.pinned : Pinned := { name := "qxb6600004a", sum := "3ae6fd4b15b3e16deda0682bb6c221515c47d125db5eab93a8a227f7d6cd9029", checked := Try.checked }
namespace Rows
def none {H : Type} : Left H := { results := [], args := [] }

/-- 'zzlaws_gogen_b1.FnLaidOutPlacesFieldsInOrder': WHATEVER THE INPUT: true; the input reads as it did. -/
def fnLaidOutPlacesFieldsInOrderSpec : ChangeSpec := { name := "fnLaidOutPlacesFieldsInOrder", fn := fun _ => fun
  | [d1, d2, d3, d4] => { results := [.lit (.bool true)], args := [d1, d2, d3, d4] }
  | _ => none }
def fnLaidOutPlacesFieldsInOrderRow : OpenClaim := { program := "qxb6600004a", sum := "3ae6fd4b15b3e16deda0682bb6c221515c47d125db5eab93a8a227f7d6cd9029", func := "example.com/bindweave/bindweave/zzlaws_gogen_b1.FnLaidOutPlacesFieldsInOrder", spec := "fnLaidOutPlacesFieldsInOrder", unfollowed := true, recurses := true, apart := false }
def FnLaidOutPlacesFieldsInOrderSaid : Prop := fnLaidOutPlacesFieldsInOrderRow.holds Try.pinned (OpenSpec.ofChange fnLaidOutPlacesFieldsInOrderSpec)

/-- ITS FALSE NEIGHBOUR: 'it returns false'. Refute it at one input. -/
def fnLaidOutPlacesFieldsInOrderWrong : ChangeSpec := { name := "fnLaidOutPlacesFieldsInOrder", fn := fun _ => fun
  | [d1, d2, d3, d4] => { results := [.lit (.bool false)], args := [d1, d2, d3, d4] }
  | _ => none }
def FnLaidOutPlacesFieldsInOrderWrongFalsely : Prop := fnLaidOutPlacesFieldsInOrderRow.holds Try.pinned (OpenSpec.ofChange fnLaidOutPlacesFieldsInOrderWrong)

/-- 'zzlaws_gogen_b1.FnLaidOutKeepsEarlierFields': WHATEVER THE INPUT: true; the input reads as it did. -/
def fnLaidOutKeepsEarlierFieldsSpec : ChangeSpec := { name := "fnLaidOutKeepsEarlierFields", fn := fun _ => fun
  | [d1, d2, d3, d4, d5] => { results := [.lit (.bool true)], args := [d1, d2, d3, d4, d5] }
  | _ => none }
def fnLaidOutKeepsEarlierFieldsRow : OpenClaim := { program := "qxb6600004a", sum := "3ae6fd4b15b3e16deda0682bb6c221515c47d125db5eab93a8a227f7d6cd9029", func := "example.com/bindweave/bindweave/zzlaws_gogen_b1.FnLaidOutKeepsEarlierFields", spec := "fnLaidOutKeepsEarlierFields", unfollowed := true, recurses := true, apart := false }
def FnLaidOutKeepsEarlierFieldsSaid : Prop := fnLaidOutKeepsEarlierFieldsRow.holds Try.pinned (OpenSpec.ofChange fnLaidOutKeepsEarlierFieldsSpec)

/-- ITS FALSE NEIGHBOUR: 'it returns false'. Refute it at one input. -/
def fnLaidOutKeepsEarlierFieldsWrong : ChangeSpec := { name := "fnLaidOutKeepsEarlierFields", fn := fun _ => fun
  | [d1, d2, d3, d4, d5] => { results := [.lit (.bool false)], args := [d1, d2, d3, d4, d5] }
  | _ => none }
def FnLaidOutKeepsEarlierFieldsWrongFalsely : Prop := fnLaidOutKeepsEarlierFieldsRow.holds Try.pinned (OpenSpec.ofChange fnLaidOutKeepsEarlierFieldsWrong)

/-- 'zzlaws_gogen_b1.FnLaidOutSizeZeroExactlyWhenNothingHasBytes': WHATEVER THE INPUT: true; the input reads as it did. -/
def fnLaidOutSizeZeroExactlyWhenNothingHasBytesSpec : ChangeSpec := { name := "fnLaidOutSizeZeroExactlyWhenNothingHasBytes", fn := fun _ => fun
  | [d1, d2, d3, d4] => { results := [.lit (.bool true)], args := [d1, d2, d3, d4] }
  | _ => none }
def fnLaidOutSizeZeroExactlyWhenNothingHasBytesRow : OpenClaim := { program := "qxb6600004a", sum := "3ae6fd4b15b3e16deda0682bb6c221515c47d125db5eab93a8a227f7d6cd9029", func := "example.com/bindweave/bindweave/zzlaws_gogen_b1.FnLaidOutSizeZeroExactlyWhenNothingHasBytes", spec := "fnLaidOutSizeZeroExactlyWhenNothingHasBytes", unfollowed := true, recurses := true, apart := false }
def FnLaidOutSizeZeroExactlyWhenNothingHasBytesSaid : Prop := fnLaidOutSizeZeroExactlyWhenNothingHasBytesRow.holds Try.pinned (OpenSpec.ofChange fnLaidOutSizeZeroExactlyWhenNothingHasBytesSpec)

/-- ITS FALSE NEIGHBOUR: 'it returns false'. Refute it at one input. -/
def fnLaidOutSizeZeroExactlyWhenNothingHasBytesWrong : ChangeSpec := { name := "fnLaidOutSizeZeroExactlyWhenNothingHasBytes", fn := fun _ => fun
  | [d1, d2, d3, d4] => { results := [.lit (.bool false)], args := [d1, d2, d3, d4] }
  | _ => none }
def FnLaidOutSizeZeroExactlyWhenNothingHasBytesWrongFalsely : Prop := fnLaidOutSizeZeroExactlyWhenNothingHasBytesRow.holds Try.pinned (OpenSpec.ofChange fnLaidOutSizeZeroExactlyWhenNothingHasBytesWrong)

/-- 'zzlaws_gogen_b1.FnMethodMembersUnionAgreesWithOverAligned': WHATEVER THE INPUT: true; the input reads as it did. -/
def fnMethodMembersUnionAgreesWithOverAlignedSpec : ChangeSpec := { name := "fnMethodMembersUnionAgreesWithOverAligned", fn := fun _ => fun
  | [d1, d2, d3, d4] => { results := [.lit (.bool true)], args := [d1, d2, d3, d4] }
  | _ => none }
def fnMethodMembersUnionAgreesWithOverAlignedRow : OpenClaim := { program := "qxb6600004a", sum := "3ae6fd4b15b3e16deda0682bb6c221515c47d125db5eab93a8a227f7d6cd9029", func := "example.com/bindweave/bindweave/zzlaws_gogen_b1.FnMethodMembersUnionAgreesWithOverAligned", spec := "fnMethodMembersUnionAgreesWithOverAligned", recurses := true, apart := false }
def FnMethodMembersUnionAgreesWithOverAlignedSaid : Prop := fnMethodMembersUnionAgreesWithOverAlignedRow.holds Try.pinned (OpenSpec.ofChange fnMethodMembersUnionAgreesWithOverAlignedSpec)

/-- ITS FALSE NEIGHBOUR: 'it returns false'. Refute it at one input. -/
def fnMethodMembersUnionAgreesWithOverAlignedWrong : ChangeSpec := { name := "fnMethodMembersUnionAgreesWithOverAligned", fn := fun _ => fun
  | [d1, d2, d3, d4] => { results := [.lit (.bool false)], args := [d1, d2, d3, d4] }
  | _ => none }
def FnMethodMembersUnionAgreesWithOverAlignedWrongFalsely : Prop := fnMethodMembersUnionAgreesWithOverAlignedRow.holds Try.pinned (OpenSpec.ofChange fnMethodMembersUnionAgreesWithOverAlignedWrong)

/-- 'zzlaws_gogen_b1.FnMethodMembersIgnoresTrailingUnnamedBitField': WHATEVER THE INPUT: true; the input reads as it did. -/
def fnMethodMembersIgnoresTrailingUnnamedBitFieldSpec : ChangeSpec := { name := "fnMethodMembersIgnoresTrailingUnnamedBitField", fn := fun _ => fun
  | [d1, d2, d3, d4, d5, d6] => { results := [.lit (.bool true)], args := [d1, d2, d3, d4, d5, d6] }
  | _ => none }
def fnMethodMembersIgnoresTrailingUnnamedBitFieldRow : OpenClaim := { program := "qxb6600004a", sum := "3ae6fd4b15b3e16deda0682bb6c221515c47d125db5eab93a8a227f7d6cd9029", func := "example.com/bindweave/bindweave/zzlaws_gogen_b1.FnMethodMembersIgnoresTrailingUnnamedBitField", spec := "fnMethodMembersIgnoresTrailingUnnamedBitField", recurses := true, apart := false }
def FnMethodMembersIgnoresTrailingUnnamedBitFieldSaid : Prop := fnMethodMembersIgnoresTrailingUnnamedBitFieldRow.holds Try.pinned (OpenSpec.ofChange fnMethodMembersIgnoresTrailingUnnamedBitFieldSpec)

/-- ITS FALSE NEIGHBOUR: 'it returns false'. Refute it at one input. -/
def fnMethodMembersIgnoresTrailingUnnamedBitFieldWrong : ChangeSpec := { name := "fnMethodMembersIgnoresTrailingUnnamedBitField", fn := fun _ => fun
  | [d1, d2, d3, d4, d5, d6] => { results := [.lit (.bool false)], args := [d1, d2, d3, d4, d5, d6] }
  | _ => none }
def FnMethodMembersIgnoresTrailingUnnamedBitFieldWrongFalsely : Prop := fnMethodMembersIgnoresTrailingUnnamedBitFieldRow.holds Try.pinned (OpenSpec.ofChange fnMethodMembersIgnoresTrailingUnnamedBitFieldWrong)

/-- 'zzlaws_gogen_b1.FnHoldingBytesFitTheRecord': WHATEVER THE INPUT: true; the input reads as it did. -/
def fnHoldingBytesFitTheRecordSpec : ChangeSpec := { name := "fnHoldingBytesFitTheRecord", fn := fun _ => fun
  | [d1, d2, d3, d4, d5] => { results := [.lit (.bool true)], args := [d1, d2, d3, d4, d5] }
  | _ => none }
def fnHoldingBytesFitTheRecordRow : OpenClaim := { program := "qxb6600004a", sum := "3ae6fd4b15b3e16deda0682bb6c221515c47d125db5eab93a8a227f7d6cd9029", func := "example.com/bindweave/bindweave/zzlaws_gogen_b1.FnHoldingBytesFitTheRecord", spec := "fnHoldingBytesFitTheRecord", apart := false }
def FnHoldingBytesFitTheRecordSaid : Prop := fnHoldingBytesFitTheRecordRow.holds Try.pinned (OpenSpec.ofChange fnHoldingBytesFitTheRecordSpec)

/-- ITS FALSE NEIGHBOUR: 'it returns false'. Refute it at one input. -/
def fnHoldingBytesFitTheRecordWrong : ChangeSpec := { name := "fnHoldingBytesFitTheRecord", fn := fun _ => fun
  | [d1, d2, d3, d4, d5] => { results := [.lit (.bool false)], args := [d1, d2, d3, d4, d5] }
  | _ => none }
def FnHoldingBytesFitTheRecordWrongFalsely : Prop := fnHoldingBytesFitTheRecordRow.holds Try.pinned (OpenSpec.ofChange fnHoldingBytesFitTheRecordWrong)

/-- 'zzlaws_gogen_b1.FnHoldingRefusesMismatchedBytes': WHATEVER THE INPUT: true; the input reads as it did. -/
def fnHoldingRefusesMismatchedBytesSpec : ChangeSpec := { name := "fnHoldingRefusesMismatchedBytes", fn := fun _ => fun
  | [d1, d2, d3, d4] => { results := [.lit (.bool true)], args := [d1, d2, d3, d4] }
  | _ => none }
def fnHoldingRefusesMismatchedBytesRow : OpenClaim := { program := "qxb6600004a", sum := "3ae6fd4b15b3e16deda0682bb6c221515c47d125db5eab93a8a227f7d6cd9029", func := "example.com/bindweave/bindweave/zzlaws_gogen_b1.FnHoldingRefusesMismatchedBytes", spec := "fnHoldingRefusesMismatchedBytes", apart := false }
def FnHoldingRefusesMismatchedBytesSaid : Prop := fnHoldingRefusesMismatchedBytesRow.holds Try.pinned (OpenSpec.ofChange fnHoldingRefusesMismatchedBytesSpec)

/-- ITS FALSE NEIGHBOUR: 'it returns false'. Refute it at one input. -/
def fnHoldingRefusesMismatchedBytesWrong : ChangeSpec := { name := "fnHoldingRefusesMismatchedBytes", fn := fun _ => fun
  | [d1, d2, d3, d4] => { results := [.lit (.bool false)], args := [d1, d2, d3, d4] }
  | _ => none }
def FnHoldingRefusesMismatchedBytesWrongFalsely : Prop := fnHoldingRefusesMismatchedBytesRow.holds Try.pinned (OpenSpec.ofChange fnHoldingRefusesMismatchedBytesWrong)

/-- 'zzlaws_gogen_b1.FnHoldingOpaqueAndVariesNameTheRecord': WHATEVER THE INPUT: true; the input reads as it did. -/
def fnHoldingOpaqueAndVariesNameTheRecordSpec : ChangeSpec := { name := "fnHoldingOpaqueAndVariesNameTheRecord", fn := fun _ => fun
  | [d1, d2, d3, d4] => { results := [.lit (.bool true)], args := [d1, d2, d3, d4] }
  | _ => none }
def fnHoldingOpaqueAndVariesNameTheRecordRow : OpenClaim := { program := "qxb6600004a", sum := "3ae6fd4b15b3e16deda0682bb6c221515c47d125db5eab93a8a227f7d6cd9029", func := "example.com/bindweave/bindweave/zzlaws_gogen_b1.FnHoldingOpaqueAndVariesNameTheRecord", spec := "fnHoldingOpaqueAndVariesNameTheRecord", apart := false }
def FnHoldingOpaqueAndVariesNameTheRecordSaid : Prop := fnHoldingOpaqueAndVariesNameTheRecordRow.holds Try.pinned (OpenSpec.ofChange fnHoldingOpaqueAndVariesNameTheRecordSpec)

/-- ITS FALSE NEIGHBOUR: 'it returns false'. Refute it at one input. -/
def fnHoldingOpaqueAndVariesNameTheRecordWrong : ChangeSpec := { name := "fnHoldingOpaqueAndVariesNameTheRecord", fn := fun _ => fun
  | [d1, d2, d3, d4] => { results := [.lit (.bool false)], args := [d1, d2, d3, d4] }
  | _ => none }
def FnHoldingOpaqueAndVariesNameTheRecordWrongFalsely : Prop := fnHoldingOpaqueAndVariesNameTheRecordRow.holds Try.pinned (OpenSpec.ofChange fnHoldingOpaqueAndVariesNameTheRecordWrong)

end Rows
end Go.Proofs.Qxb6600004a

/-
  No cell of these rows narrows 'for every input' (looked for: loops, veiled, ifaces, maps, wideKeys, modest, calm, conditions, laid).
  DERIVED. THE GIVEN ROWS OF THIS SEAT. 6 by the template 'for every input the law returns true; each argument reads behind the call as it read before'; 0 by the template 'total and deterministic' (their statements: Qxb6619298aTotals.lean).
  GIVEN WITH THE SEED: the statements are not yours to turn. If you find one false, say at which input.
  Laid BY PROGRAM, IN A SANDBOX (cutbox-rows.mjs): the forced cells as the released guide's own fill.sh prints them over the translation 9fc498ccb77052ba… (all of the seat's roots in one cut). By AI agents, Wed Nov 11 2026. No macro, syntax, notation, axiom, sorry.
-/
import Derived.Test.Qxb6619298aChecked
import GoSem.Claim
import GoSem.ClaimJoined
import GoSem.ClaimMapViews
import Derived.JoinedTies
import Derived.KernelRfl
namespace Go.Proofs.Qxb6619298a
/- THE CELL 'sum', in the pinned program and in every row, IS THE sha256 OF THE DUMP (.gsa) THAT Qxb6619298aProg.lean LOADS. Nothing in Lean hashes anything: it is a label: what it is worth is what the hold of that sum in a sandbox is worth. -/
noncomputable def Try.pinned : Pinned := { name := "qxb6619298a", sum := "9fc498ccb77052ba825b9290140fece7a009e0ed82c5c3336a8542b23310d318", checked := Try.checked }
namespace Rows
def none {H : Type} : Left H := { results := [], args := [] }

/-- 'zzlaws_internal_block_b1.FnIntersectIsTheCommonIDsInOrder': WHATEVER THE INPUT: true; the input reads as it did. -/
def fnIntersectIsTheCommonIDsInOrderSpec : ChangeSpec := { name := "fnIntersectIsTheCommonIDsInOrder", fn := fun _ => fun
  | [d1, d2] => { results := [.lit (.bool true)], args := [d1, d2] }
  | _ => none }
def fnIntersectIsTheCommonIDsInOrderRow : OpenClaim := { program := "qxb6619298a", sum := "9fc498ccb77052ba825b9290140fece7a009e0ed82c5c3336a8542b23310d318", func := "example.com/lodestone/lodestone/zzlaws_internal_block_b1.FnIntersectIsTheCommonIDsInOrder", spec := "fnIntersectIsTheCommonIDsInOrder", apart := false }
def FnIntersectIsTheCommonIDsInOrderSaid : Prop := fnIntersectIsTheCommonIDsInOrderRow.holds Try.pinned (OpenSpec.ofChange fnIntersectIsTheCommonIDsInOrderSpec)

/-- ITS FALSE NEIGHBOUR: 'it returns false'. Refute it at one input. -/
def fnIntersectIsTheCommonIDsInOrderWrong : ChangeSpec := { name := "fnIntersectIsTheCommonIDsInOrder", fn := fun _ => fun
  | [d1, d2] => { results := [.lit (.bool false)], args := [d1, d2] }
  | _ => none }
def FnIntersectIsTheCommonIDsInOrderWrongFalsely : Prop := fnIntersectIsTheCommonIDsInOrderRow.holds Try.pinned (OpenSpec.ofChange fnIntersectIsTheCommonIDsInOrderWrong)

/-- 'zzlaws_internal_block_b1.FnIntersectCommutesAndKeepsItself': WHATEVER THE INPUT: true; the input reads as it did. -/
def fnIntersectCommutesAndKeepsItselfSpec : ChangeSpec := { name := "fnIntersectCommutesAndKeepsItself", fn := fun _ => fun
  | [d1, d2] => { results := [.lit (.bool true)], args := [d1, d2] }
  | _ => none }
def fnIntersectCommutesAndKeepsItselfRow : OpenClaim := { program := "qxb6619298a", sum := "9fc498ccb77052ba825b9290140fece7a009e0ed82c5c3336a8542b23310d318", func := "example.com/lodestone/lodestone/zzlaws_internal_block_b1.FnIntersectCommutesAndKeepsItself", spec := "fnIntersectCommutesAndKeepsItself", apart := false }
def FnIntersectCommutesAndKeepsItselfSaid : Prop := fnIntersectCommutesAndKeepsItselfRow.holds Try.pinned (OpenSpec.ofChange fnIntersectCommutesAndKeepsItselfSpec)

/-- ITS FALSE NEIGHBOUR: 'it returns false'. Refute it at one input. -/
def fnIntersectCommutesAndKeepsItselfWrong : ChangeSpec := { name := "fnIntersectCommutesAndKeepsItself", fn := fun _ => fun
  | [d1, d2] => { results := [.lit (.bool false)], args := [d1, d2] }
  | _ => none }
def FnIntersectCommutesAndKeepsItselfWrongFalsely : Prop := fnIntersectCommutesAndKeepsItselfRow.holds Try.pinned (OpenSpec.ofChange fnIntersectCommutesAndKeepsItselfWrong)

/-- 'zzlaws_internal_block_b1.FnHoldsAllIsCoverAndMoreOrFirst': WHATEVER THE INPUT: true; the input reads as it did. -/
def fnHoldsAllIsCoverAndMoreOrFirstSpec : ChangeSpec := { name := "fnHoldsAllIsCoverAndMoreOrFirst", fn := fun _ => fun
  | [d1, d2, d3] => { results := [.lit (.bool true)], args := [d1, d2, d3] }
  | _ => none }
def fnHoldsAllIsCoverAndMoreOrFirstRow : OpenClaim := { program := "qxb6619298a", sum := "9fc498ccb77052ba825b9290140fece7a009e0ed82c5c3336a8542b23310d318", func := "example.com/lodestone/lodestone/zzlaws_internal_block_b1.FnHoldsAllIsCoverAndMoreOrFirst", spec := "fnHoldsAllIsCoverAndMoreOrFirst", apart := false }
def FnHoldsAllIsCoverAndMoreOrFirstSaid : Prop := fnHoldsAllIsCoverAndMoreOrFirstRow.holds Try.pinned (OpenSpec.ofChange fnHoldsAllIsCoverAndMoreOrFirstSpec)

/-- ITS FALSE NEIGHBOUR: 'it returns false'. Refute it at one input. -/
def fnHoldsAllIsCoverAndMoreOrFirstWrong : ChangeSpec := { name := "fnHoldsAllIsCoverAndMoreOrFirst", fn := fun _ => fun
  | [d1, d2, d3] => { results := [.lit (.bool false)], args := [d1, d2, d3] }
  | _ => none }
def FnHoldsAllIsCoverAndMoreOrFirstWrongFalsely : Prop := fnHoldsAllIsCoverAndMoreOrFirstRow.holds Try.pinned (OpenSpec.ofChange fnHoldsAllIsCoverAndMoreOrFirstWrong)

/-- 'zzlaws_internal_block_b1.FnHoldsAllSelfAndOneMore': WHATEVER THE INPUT: true; the input reads as it did. -/
def fnHoldsAllSelfAndOneMoreSpec : ChangeSpec := { name := "fnHoldsAllSelfAndOneMore", fn := fun _ => fun
  | [d1, d2, d3] => { results := [.lit (.bool true)], args := [d1, d2, d3] }
  | _ => none }
def fnHoldsAllSelfAndOneMoreRow : OpenClaim := { program := "qxb6619298a", sum := "9fc498ccb77052ba825b9290140fece7a009e0ed82c5c3336a8542b23310d318", func := "example.com/lodestone/lodestone/zzlaws_internal_block_b1.FnHoldsAllSelfAndOneMore", spec := "fnHoldsAllSelfAndOneMore", apart := false }
def FnHoldsAllSelfAndOneMoreSaid : Prop := fnHoldsAllSelfAndOneMoreRow.holds Try.pinned (OpenSpec.ofChange fnHoldsAllSelfAndOneMoreSpec)

/-- ITS FALSE NEIGHBOUR: 'it returns false'. Refute it at one input. -/
def fnHoldsAllSelfAndOneMoreWrong : ChangeSpec := { name := "fnHoldsAllSelfAndOneMore", fn := fun _ => fun
  | [d1, d2, d3] => { results := [.lit (.bool false)], args := [d1, d2, d3] }
  | _ => none }
def FnHoldsAllSelfAndOneMoreWrongFalsely : Prop := fnHoldsAllSelfAndOneMoreRow.holds Try.pinned (OpenSpec.ofChange fnHoldsAllSelfAndOneMoreWrong)

/-- 'zzlaws_internal_block_b1.FnSupersededIsHeldByAnother': WHATEVER THE INPUT: true; the input reads as it did. -/
def fnSupersededIsHeldByAnotherSpec : ChangeSpec := { name := "fnSupersededIsHeldByAnother", fn := fun _ => fun
  | [d] => { results := [.lit (.bool true)], args := [d] }
  | _ => none }
def fnSupersededIsHeldByAnotherRow : OpenClaim := { program := "qxb6619298a", sum := "9fc498ccb77052ba825b9290140fece7a009e0ed82c5c3336a8542b23310d318", func := "example.com/lodestone/lodestone/zzlaws_internal_block_b1.FnSupersededIsHeldByAnother", spec := "fnSupersededIsHeldByAnother", apart := false }
def FnSupersededIsHeldByAnotherSaid : Prop := fnSupersededIsHeldByAnotherRow.holds Try.pinned (OpenSpec.ofChange fnSupersededIsHeldByAnotherSpec)

/-- ITS FALSE NEIGHBOUR: 'it returns false'. Refute it at one input. -/
def fnSupersededIsHeldByAnotherWrong : ChangeSpec := { name := "fnSupersededIsHeldByAnother", fn := fun _ => fun
  | [d] => { results := [.lit (.bool false)], args := [d] }
  | _ => none }
def FnSupersededIsHeldByAnotherWrongFalsely : Prop := fnSupersededIsHeldByAnotherRow.holds Try.pinned (OpenSpec.ofChange fnSupersededIsHeldByAnotherWrong)

/-- 'zzlaws_internal_block_b1.FnSupersededDuplicateAddsOnlyItself': WHATEVER THE INPUT: true; the input reads as it did. -/
def fnSupersededDuplicateAddsOnlyItselfSpec : ChangeSpec := { name := "fnSupersededDuplicateAddsOnlyItself", fn := fun _ => fun
  | [d1, d2] => { results := [.lit (.bool true)], args := [d1, d2] }
  | _ => none }
def fnSupersededDuplicateAddsOnlyItselfRow : OpenClaim := { program := "qxb6619298a", sum := "9fc498ccb77052ba825b9290140fece7a009e0ed82c5c3336a8542b23310d318", func := "example.com/lodestone/lodestone/zzlaws_internal_block_b1.FnSupersededDuplicateAddsOnlyItself", spec := "fnSupersededDuplicateAddsOnlyItself", apart := false }
def FnSupersededDuplicateAddsOnlyItselfSaid : Prop := fnSupersededDuplicateAddsOnlyItselfRow.holds Try.pinned (OpenSpec.ofChange fnSupersededDuplicateAddsOnlyItselfSpec)

/-- ITS FALSE NEIGHBOUR: 'it returns false'. Refute it at one input. -/
def fnSupersededDuplicateAddsOnlyItselfWrong : ChangeSpec := { name := "fnSupersededDuplicateAddsOnlyItself", fn := fun _ => fun
  | [d1, d2] => { results := [.lit (.bool false)], args := [d1, d2] }
  | _ => none }
def FnSupersededDuplicateAddsOnlyItselfWrongFalsely : Prop := fnSupersededDuplicateAddsOnlyItselfRow.holds Try.pinned (OpenSpec.ofChange fnSupersededDuplicateAddsOnlyItselfWrong)

end Rows
end Go.Proofs.Qxb6619298a

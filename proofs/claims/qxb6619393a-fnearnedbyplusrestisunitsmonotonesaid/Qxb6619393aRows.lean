/-
  No cell of these rows narrows 'for every input' (looked for: loops, veiled, ifaces, maps, wideKeys, modest, calm, conditions, laid).
  DERIVED. THE GIVEN ROWS OF THIS SEAT. 2 by the template 'for every input the law returns true; each argument reads behind the call as it read before'; 0 by the template 'total and deterministic' (their statements: Qxb6619393aTotals.lean).
  GIVEN WITH THE SEED: the statements are not yours to turn. If you find one false, say at which input.
  Laid BY PROGRAM, IN A SANDBOX (cutbox-rows.mjs): the forced cells as the released guide's own fill.sh prints them over the translation 480706a6ae2714f2… (all of the seat's roots in one cut). By AI agents, Wed Nov 11 2026. No macro, syntax, notation, axiom, sorry.
-/
import Derived.Test.Qxb6619393aChecked
import GoSem.Claim
import GoSem.ClaimJoined
import GoSem.ClaimMapViews
import Derived.JoinedTies
import Derived.KernelRfl
namespace Go.Proofs.Qxb6619393a
/- THE CELL 'sum', in the pinned program and in every row, IS THE sha256 OF THE DUMP (.gsa) THAT Qxb6619393aProg.lean LOADS. Nothing in Lean hashes anything: it is a label: what it is worth is what the hold of that sum in a sandbox is worth. -/
noncomputable def Try.pinned : Pinned := { name := "qxb6619393a", sum := "480706a6ae2714f2e149084672500b1dfa483c132544c0c373ad5578026ae467", checked := Try.checked }
namespace Rows
def none {H : Type} : Left H := { results := [], args := [] }

/-- 'zzlaws_journal_b1.FnDayShareFairBackLoadedTotal': WHATEVER THE INPUT: true; the input reads as it did. -/
def fnDayShareFairBackLoadedTotalSpec : ChangeSpec := { name := "fnDayShareFairBackLoadedTotal", fn := fun _ => fun
  | [d1, d2, d3] => { results := [.lit (.bool true)], args := [d1, d2, d3] }
  | _ => none }
def fnDayShareFairBackLoadedTotalRow : OpenClaim := { program := "qxb6619393a", sum := "480706a6ae2714f2e149084672500b1dfa483c132544c0c373ad5578026ae467", func := "example.com/earnline/earnline/zzlaws_journal_b1.FnDayShareFairBackLoadedTotal", spec := "fnDayShareFairBackLoadedTotal", apart := false }
def FnDayShareFairBackLoadedTotalSaid : Prop := fnDayShareFairBackLoadedTotalRow.holds Try.pinned (OpenSpec.ofChange fnDayShareFairBackLoadedTotalSpec)

/-- ITS FALSE NEIGHBOUR: 'it returns false'. Refute it at one input. -/
def fnDayShareFairBackLoadedTotalWrong : ChangeSpec := { name := "fnDayShareFairBackLoadedTotal", fn := fun _ => fun
  | [d1, d2, d3] => { results := [.lit (.bool false)], args := [d1, d2, d3] }
  | _ => none }
def FnDayShareFairBackLoadedTotalWrongFalsely : Prop := fnDayShareFairBackLoadedTotalRow.holds Try.pinned (OpenSpec.ofChange fnDayShareFairBackLoadedTotalWrong)

/-- 'zzlaws_journal_b1.FnEarnedByPlusRestIsUnitsMonotone': WHATEVER THE INPUT: true; the input reads as it did. -/
def fnEarnedByPlusRestIsUnitsMonotoneSpec : ChangeSpec := { name := "fnEarnedByPlusRestIsUnitsMonotone", fn := fun _ => fun
  | [d1, d2, d3, d4, d5] => { results := [.lit (.bool true)], args := [d1, d2, d3, d4, d5] }
  | _ => none }
def fnEarnedByPlusRestIsUnitsMonotoneRow : OpenClaim := { program := "qxb6619393a", sum := "480706a6ae2714f2e149084672500b1dfa483c132544c0c373ad5578026ae467", func := "example.com/earnline/earnline/zzlaws_journal_b1.FnEarnedByPlusRestIsUnitsMonotone", spec := "fnEarnedByPlusRestIsUnitsMonotone", apart := false }
def FnEarnedByPlusRestIsUnitsMonotoneSaid : Prop := fnEarnedByPlusRestIsUnitsMonotoneRow.holds Try.pinned (OpenSpec.ofChange fnEarnedByPlusRestIsUnitsMonotoneSpec)

/-- ITS FALSE NEIGHBOUR: 'it returns false'. Refute it at one input. -/
def fnEarnedByPlusRestIsUnitsMonotoneWrong : ChangeSpec := { name := "fnEarnedByPlusRestIsUnitsMonotone", fn := fun _ => fun
  | [d1, d2, d3, d4, d5] => { results := [.lit (.bool false)], args := [d1, d2, d3, d4, d5] }
  | _ => none }
def FnEarnedByPlusRestIsUnitsMonotoneWrongFalsely : Prop := fnEarnedByPlusRestIsUnitsMonotoneRow.holds Try.pinned (OpenSpec.ofChange fnEarnedByPlusRestIsUnitsMonotoneWrong)

end Rows
end Go.Proofs.Qxb6619393a

/-
  No cell of these rows narrows 'for every input' (looked for: loops, veiled, ifaces, maps, wideKeys, modest, calm, conditions, laid).
  DERIVED. THE GIVEN ROWS OF THIS SEAT. 2 by the template 'for every input the law returns true; each argument reads behind the call as it read before'; 0 by the template 'total and deterministic' (their statements: Qxb6614565aTotals.lean).
  GIVEN WITH THE SEED: the statements are not yours to turn. If you find one false, say at which input.
  Laid BY PROGRAM, IN A SANDBOX (cutbox-rows.mjs): the forced cells as the released guide's own fill.sh prints them over the translation b7c12bbcbbcd8bab… (all of the seat's roots in one cut). By AI agents, Wed Nov 11 2026. No macro, syntax, notation, axiom, sorry.
-/
import Derived.Test.Qxb6614565aChecked
import GoSem.Claim
import GoSem.ClaimJoined
import GoSem.ClaimMapViews
import Derived.JoinedTies
import Derived.KernelRfl
namespace Go.Proofs.Qxb6614565a
/- THE CELL 'sum', in the pinned program and in every row, IS THE sha256 OF THE DUMP (.gsa) THAT Qxb6614565aProg.lean LOADS. Nothing in Lean hashes anything: it is a label: what it is worth is what the hold of that sum in a sandbox is worth. -/
noncomputable def Try.pinned : Pinned := { name := "qxb6614565a", sum := "b7c12bbcbbcd8bab8f3a4fc21c13f3a6d594344dbd8056c6bb962322a6714ebc", checked := Try.checked }
namespace Rows
def none {H : Type} : Left H := { results := [], args := [] }

/-- 'zzlaws_internal_match_b1.FnRunMasksPointsIntoTheWordOfTheState': WHATEVER THE INPUT: true; the input reads as it did. -/
def fnRunMasksPointsIntoTheWordOfTheStateSpec : ChangeSpec := { name := "fnRunMasksPointsIntoTheWordOfTheState", fn := fun _ => fun
  | [d1, d2, d3, d4, d5, d6] => { results := [.lit (.bool true)], args := [d1, d2, d3, d4, d5, d6] }
  | _ => none }
def fnRunMasksPointsIntoTheWordOfTheStateRow : OpenClaim := { program := "qxb6614565a", sum := "b7c12bbcbbcd8bab8f3a4fc21c13f3a6d594344dbd8056c6bb962322a6714ebc", func := "example.com/uni-cond/uni-cond/zzlaws_internal_match_b1.FnRunMasksPointsIntoTheWordOfTheState", spec := "fnRunMasksPointsIntoTheWordOfTheState", apart := false }
def FnRunMasksPointsIntoTheWordOfTheStateSaid : Prop := fnRunMasksPointsIntoTheWordOfTheStateRow.holds Try.pinned (OpenSpec.ofChange fnRunMasksPointsIntoTheWordOfTheStateSpec)

/-- ITS FALSE NEIGHBOUR: 'it returns false'. Refute it at one input. -/
def fnRunMasksPointsIntoTheWordOfTheStateWrong : ChangeSpec := { name := "fnRunMasksPointsIntoTheWordOfTheState", fn := fun _ => fun
  | [d1, d2, d3, d4, d5, d6] => { results := [.lit (.bool false)], args := [d1, d2, d3, d4, d5, d6] }
  | _ => none }
def FnRunMasksPointsIntoTheWordOfTheStateWrongFalsely : Prop := fnRunMasksPointsIntoTheWordOfTheStateRow.holds Try.pinned (OpenSpec.ofChange fnRunMasksPointsIntoTheWordOfTheStateWrong)

/-- 'zzlaws_internal_match_b1.FnWalkSizeIsAdditive': WHATEVER THE INPUT: true; the input reads as it did. -/
def fnWalkSizeIsAdditiveSpec : ChangeSpec := { name := "fnWalkSizeIsAdditive", fn := fun _ => fun
  | [d1, d2, d3, d4, d5, d6, d7, d8, d9, d10] => { results := [.lit (.bool true)], args := [d1, d2, d3, d4, d5, d6, d7, d8, d9, d10] }
  | _ => none }
def fnWalkSizeIsAdditiveRow : OpenClaim := { program := "qxb6614565a", sum := "b7c12bbcbbcd8bab8f3a4fc21c13f3a6d594344dbd8056c6bb962322a6714ebc", func := "example.com/uni-cond/uni-cond/zzlaws_internal_match_b1.FnWalkSizeIsAdditive", spec := "fnWalkSizeIsAdditive", apart := false }
def FnWalkSizeIsAdditiveSaid : Prop := fnWalkSizeIsAdditiveRow.holds Try.pinned (OpenSpec.ofChange fnWalkSizeIsAdditiveSpec)

/-- ITS FALSE NEIGHBOUR: 'it returns false'. Refute it at one input. -/
def fnWalkSizeIsAdditiveWrong : ChangeSpec := { name := "fnWalkSizeIsAdditive", fn := fun _ => fun
  | [d1, d2, d3, d4, d5, d6, d7, d8, d9, d10] => { results := [.lit (.bool false)], args := [d1, d2, d3, d4, d5, d6, d7, d8, d9, d10] }
  | _ => none }
def FnWalkSizeIsAdditiveWrongFalsely : Prop := fnWalkSizeIsAdditiveRow.holds Try.pinned (OpenSpec.ofChange fnWalkSizeIsAdditiveWrong)

end Rows
end Go.Proofs.Qxb6614565a

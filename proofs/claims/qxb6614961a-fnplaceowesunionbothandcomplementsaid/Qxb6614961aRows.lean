/-
  No cell of these rows narrows 'for every input' (looked for: loops, veiled, ifaces, maps, wideKeys, modest, calm, conditions, laid).
  DERIVED. THE GIVEN ROWS OF THIS SEAT. 2 by the template 'for every input the law returns true; each argument reads behind the call as it read before'; 0 by the template 'total and deterministic' (their statements: Qxb6614961aTotals.lean).
  GIVEN WITH THE SEED: the statements are not yours to turn. If you find one false, say at which input.
  Laid BY PROGRAM, IN A SANDBOX (cutbox-rows.mjs): the forced cells as the released guide's own fill.sh prints them over the translation cc4f249b566b33b1… (all of the seat's roots in one cut). By AI agents, Wed Nov 11 2026. No macro, syntax, notation, axiom, sorry.
-/
import Derived.Test.Qxb6614961aChecked
import GoSem.Claim
import GoSem.ClaimJoined
import GoSem.ClaimMapViews
import Derived.JoinedTies
import Derived.KernelRfl
namespace Go.Proofs.Qxb6614961a
/- THE CELL 'sum', in the pinned program and in every row, IS THE sha256 OF THE DUMP (.gsa) THAT Qxb6614961aProg.lean LOADS. Nothing in Lean hashes anything: it is a label: what it is worth is what the hold of that sum in a sandbox is worth. -/
noncomputable def Try.pinned : Pinned := { name := "qxb6614961a", sum := "cc4f249b566b33b10cb8a71ff755d88d4018c52f8873d898bf337a08a0435487", checked := Try.checked }
namespace Rows
def none {H : Type} : Left H := { results := [], args := [] }

/-- 'zzlaws_check_b1.FnPlaceOwesUnionBothAndComplement': WHATEVER THE INPUT: true; the input reads as it did. -/
def fnPlaceOwesUnionBothAndComplementSpec : ChangeSpec := { name := "fnPlaceOwesUnionBothAndComplement", fn := fun _ => fun
  | [d1, d2, d3] => { results := [.lit (.bool true)], args := [d1, d2, d3] }
  | _ => none }
def fnPlaceOwesUnionBothAndComplementRow : OpenClaim := { program := "qxb6614961a", sum := "cc4f249b566b33b10cb8a71ff755d88d4018c52f8873d898bf337a08a0435487", func := "example.com/strake/strake/zzlaws_check_b1.FnPlaceOwesUnionBothAndComplement", spec := "fnPlaceOwesUnionBothAndComplement", apart := false }
def FnPlaceOwesUnionBothAndComplementSaid : Prop := fnPlaceOwesUnionBothAndComplementRow.holds Try.pinned (OpenSpec.ofChange fnPlaceOwesUnionBothAndComplementSpec)

/-- ITS FALSE NEIGHBOUR: 'it returns false'. Refute it at one input. -/
def fnPlaceOwesUnionBothAndComplementWrong : ChangeSpec := { name := "fnPlaceOwesUnionBothAndComplement", fn := fun _ => fun
  | [d1, d2, d3] => { results := [.lit (.bool false)], args := [d1, d2, d3] }
  | _ => none }
def FnPlaceOwesUnionBothAndComplementWrongFalsely : Prop := fnPlaceOwesUnionBothAndComplementRow.holds Try.pinned (OpenSpec.ofChange fnPlaceOwesUnionBothAndComplementWrong)

/-- 'zzlaws_check_b1.FnPlaceOwesEndStateNeutral': WHATEVER THE INPUT: true; the input reads as it did. -/
def fnPlaceOwesEndStateNeutralSpec : ChangeSpec := { name := "fnPlaceOwesEndStateNeutral", fn := fun _ => fun
  | [d1, d2] => { results := [.lit (.bool true)], args := [d1, d2] }
  | _ => none }
def fnPlaceOwesEndStateNeutralRow : OpenClaim := { program := "qxb6614961a", sum := "cc4f249b566b33b10cb8a71ff755d88d4018c52f8873d898bf337a08a0435487", func := "example.com/strake/strake/zzlaws_check_b1.FnPlaceOwesEndStateNeutral", spec := "fnPlaceOwesEndStateNeutral", apart := false }
def FnPlaceOwesEndStateNeutralSaid : Prop := fnPlaceOwesEndStateNeutralRow.holds Try.pinned (OpenSpec.ofChange fnPlaceOwesEndStateNeutralSpec)

/-- ITS FALSE NEIGHBOUR: 'it returns false'. Refute it at one input. -/
def fnPlaceOwesEndStateNeutralWrong : ChangeSpec := { name := "fnPlaceOwesEndStateNeutral", fn := fun _ => fun
  | [d1, d2] => { results := [.lit (.bool false)], args := [d1, d2] }
  | _ => none }
def FnPlaceOwesEndStateNeutralWrongFalsely : Prop := fnPlaceOwesEndStateNeutralRow.holds Try.pinned (OpenSpec.ofChange fnPlaceOwesEndStateNeutralWrong)

end Rows
end Go.Proofs.Qxb6614961a

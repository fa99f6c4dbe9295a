/-
  No cell of these rows narrows 'for every input' (looked for: loops, veiled, ifaces, maps, wideKeys, modest, calm, conditions, laid).
  DERIVED. THE GIVEN ROWS OF THIS SEAT. 2 by the template 'for every input the law returns true; each argument reads behind the call as it read before'; 0 by the template 'total and deterministic' (their statements: Qxb6614603aTotals.lean).
  GIVEN WITH THE SEED: the statements are not yours to turn. If you find one false, say at which input.
  Laid BY PROGRAM, IN A SANDBOX (cutbox-rows.mjs): the forced cells as the released guide's own fill.sh prints them over the translation 2e51b998d4186fb7… (all of the seat's roots in one cut). By AI agents, Wed Nov 11 2026. No macro, syntax, notation, axiom, sorry.
-/
import Derived.Test.Qxb6614603aChecked
import GoSem.Claim
import GoSem.ClaimJoined
import GoSem.ClaimMapViews
import Derived.JoinedTies
import Derived.KernelRfl
namespace Go.Proofs.Qxb6614603a
/- THE CELL 'sum', in the pinned program and in every row, IS THE sha256 OF THE DUMP (.gsa) THAT Qxb6614603aProg.lean LOADS. Nothing in Lean hashes anything: it is a label: what it is worth is what the hold of that sum in a sandbox is worth. -/
noncomputable def Try.pinned : Pinned := { name := "qxb6614603a", sum := "2e51b998d4186fb7c7b81fa8e1f0d266cd39552e97084d97c0e6babf220f22f3", checked := Try.checked }
namespace Rows
def none {H : Type} : Left H := { results := [], args := [] }

/-- 'zzlaws_root_b1.FnYamlPrintableIsScalarNotControl': WHATEVER THE INPUT: true; the input reads as it did. -/
def fnYamlPrintableIsScalarNotControlSpec : ChangeSpec := { name := "fnYamlPrintableIsScalarNotControl", fn := fun _ => fun
  | [d] => { results := [.lit (.bool true)], args := [d] }
  | _ => none }
def fnYamlPrintableIsScalarNotControlRow : OpenClaim := { program := "qxb6614603a", sum := "2e51b998d4186fb7c7b81fa8e1f0d266cd39552e97084d97c0e6babf220f22f3", func := "example.com/laminate/laminate/zzlaws_root_b1.FnYamlPrintableIsScalarNotControl", spec := "fnYamlPrintableIsScalarNotControl", apart := false }
def FnYamlPrintableIsScalarNotControlSaid : Prop := fnYamlPrintableIsScalarNotControlRow.holds Try.pinned (OpenSpec.ofChange fnYamlPrintableIsScalarNotControlSpec)

/-- ITS FALSE NEIGHBOUR: 'it returns false'. Refute it at one input. -/
def fnYamlPrintableIsScalarNotControlWrong : ChangeSpec := { name := "fnYamlPrintableIsScalarNotControl", fn := fun _ => fun
  | [d] => { results := [.lit (.bool false)], args := [d] }
  | _ => none }
def FnYamlPrintableIsScalarNotControlWrongFalsely : Prop := fnYamlPrintableIsScalarNotControlRow.holds Try.pinned (OpenSpec.ofChange fnYamlPrintableIsScalarNotControlWrong)

/-- 'zzlaws_root_b1.FnYamlPrintableChangesAtEdges': WHATEVER THE INPUT: true; the input reads as it did. -/
def fnYamlPrintableChangesAtEdgesSpec : ChangeSpec := { name := "fnYamlPrintableChangesAtEdges", fn := fun _ => fun
  | [d] => { results := [.lit (.bool true)], args := [d] }
  | _ => none }
def fnYamlPrintableChangesAtEdgesRow : OpenClaim := { program := "qxb6614603a", sum := "2e51b998d4186fb7c7b81fa8e1f0d266cd39552e97084d97c0e6babf220f22f3", func := "example.com/laminate/laminate/zzlaws_root_b1.FnYamlPrintableChangesAtEdges", spec := "fnYamlPrintableChangesAtEdges", apart := false }
def FnYamlPrintableChangesAtEdgesSaid : Prop := fnYamlPrintableChangesAtEdgesRow.holds Try.pinned (OpenSpec.ofChange fnYamlPrintableChangesAtEdgesSpec)

/-- ITS FALSE NEIGHBOUR: 'it returns false'. Refute it at one input. -/
def fnYamlPrintableChangesAtEdgesWrong : ChangeSpec := { name := "fnYamlPrintableChangesAtEdges", fn := fun _ => fun
  | [d] => { results := [.lit (.bool false)], args := [d] }
  | _ => none }
def FnYamlPrintableChangesAtEdgesWrongFalsely : Prop := fnYamlPrintableChangesAtEdgesRow.holds Try.pinned (OpenSpec.ofChange fnYamlPrintableChangesAtEdgesWrong)

end Rows
end Go.Proofs.Qxb6614603a

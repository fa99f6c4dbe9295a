/-
  No cell of these rows narrows 'for every input' (looked for: loops, veiled, ifaces, maps, wideKeys, modest, calm, conditions, laid).
  DERIVED. THE GIVEN ROWS OF THIS SEAT. 3 by the template 'for every input the law returns true; each argument reads behind the call as it read before'; 0 by the template 'total and deterministic' (their statements: Qxb6614494aTotals.lean).
  GIVEN WITH THE SEED: the statements are not yours to turn. If you find one false, say at which input.
  Laid BY PROGRAM, IN A SANDBOX (cutbox-rows.mjs): the forced cells as the released guide's own fill.sh prints them over the translation 026944d5a956d515… (all of the seat's roots in one cut). By AI agents, Wed Nov 11 2026. No macro, syntax, notation, axiom, sorry.
-/
import Derived.Test.Qxb6614494aChecked
import GoSem.Claim
import GoSem.ClaimJoined
import GoSem.ClaimMapViews
import Derived.JoinedTies
import Derived.KernelRfl
namespace Go.Proofs.Qxb6614494a
/- THE CELL 'sum', in the pinned program and in every row, IS THE sha256 OF THE DUMP (.gsa) THAT Qxb6614494aProg.lean LOADS. Nothing in Lean hashes anything: it is a label: what it is worth is what the hold of that sum in a sandbox is worth. -/
noncomputable def Try.pinned : Pinned := { name := "qxb6614494a", sum := "026944d5a956d51541946cb544bf5b905bb57afb5d7f944ff9d251a0837b0a71", checked := Try.checked }
namespace Rows
def none {H : Type} : Left H := { results := [], args := [] }

/-- 'zzlaws_pkg_sim_b1.FnNewMemoryAdmitsExactlyWhatFits': WHATEVER THE INPUT: true; the input reads as it did. -/
def fnNewMemoryAdmitsExactlyWhatFitsSpec : ChangeSpec := { name := "fnNewMemoryAdmitsExactlyWhatFits", fn := fun _ => fun
  | [d1, d2] => { results := [.lit (.bool true)], args := [d1, d2] }
  | _ => none }
def fnNewMemoryAdmitsExactlyWhatFitsRow : OpenClaim := { program := "qxb6614494a", sum := "026944d5a956d51541946cb544bf5b905bb57afb5d7f944ff9d251a0837b0a71", func := "example.com/ennuste/ennuste/zzlaws_pkg_sim_b1.FnNewMemoryAdmitsExactlyWhatFits", spec := "fnNewMemoryAdmitsExactlyWhatFits", unfollowed := true, recurses := true, apart := false }
def FnNewMemoryAdmitsExactlyWhatFitsSaid : Prop := fnNewMemoryAdmitsExactlyWhatFitsRow.holds Try.pinned (OpenSpec.ofChange fnNewMemoryAdmitsExactlyWhatFitsSpec)

/-- ITS FALSE NEIGHBOUR: 'it returns false'. Refute it at one input. -/
def fnNewMemoryAdmitsExactlyWhatFitsWrong : ChangeSpec := { name := "fnNewMemoryAdmitsExactlyWhatFits", fn := fun _ => fun
  | [d1, d2] => { results := [.lit (.bool false)], args := [d1, d2] }
  | _ => none }
def FnNewMemoryAdmitsExactlyWhatFitsWrongFalsely : Prop := fnNewMemoryAdmitsExactlyWhatFitsRow.holds Try.pinned (OpenSpec.ofChange fnNewMemoryAdmitsExactlyWhatFitsWrong)

/-- 'zzlaws_pkg_sim_b1.FnNewMemoryFreshAndUnshared': WHATEVER THE INPUT: true; the input reads as it did. -/
def fnNewMemoryFreshAndUnsharedSpec : ChangeSpec := { name := "fnNewMemoryFreshAndUnshared", fn := fun _ => fun
  | [d1, d2, d3, d4] => { results := [.lit (.bool true)], args := [d1, d2, d3, d4] }
  | _ => none }
def fnNewMemoryFreshAndUnsharedRow : OpenClaim := { program := "qxb6614494a", sum := "026944d5a956d51541946cb544bf5b905bb57afb5d7f944ff9d251a0837b0a71", func := "example.com/ennuste/ennuste/zzlaws_pkg_sim_b1.FnNewMemoryFreshAndUnshared", spec := "fnNewMemoryFreshAndUnshared", unfollowed := true, recurses := true, apart := false }
def FnNewMemoryFreshAndUnsharedSaid : Prop := fnNewMemoryFreshAndUnsharedRow.holds Try.pinned (OpenSpec.ofChange fnNewMemoryFreshAndUnsharedSpec)

/-- ITS FALSE NEIGHBOUR: 'it returns false'. Refute it at one input. -/
def fnNewMemoryFreshAndUnsharedWrong : ChangeSpec := { name := "fnNewMemoryFreshAndUnshared", fn := fun _ => fun
  | [d1, d2, d3, d4] => { results := [.lit (.bool false)], args := [d1, d2, d3, d4] }
  | _ => none }
def FnNewMemoryFreshAndUnsharedWrongFalsely : Prop := fnNewMemoryFreshAndUnsharedRow.holds Try.pinned (OpenSpec.ofChange fnNewMemoryFreshAndUnsharedWrong)

/-- 'zzlaws_pkg_sim_b1.FnServerAdmitsInTurnSharingBlocks': WHATEVER THE INPUT: true; the input reads as it did. -/
def fnServerAdmitsInTurnSharingBlocksSpec : ChangeSpec := { name := "fnServerAdmitsInTurnSharingBlocks", fn := fun _ => fun
  | [d1, d2, d3, d4, d5] => { results := [.lit (.bool true)], args := [d1, d2, d3, d4, d5] }
  | _ => none }
def fnServerAdmitsInTurnSharingBlocksRow : OpenClaim := { program := "qxb6614494a", sum := "026944d5a956d51541946cb544bf5b905bb57afb5d7f944ff9d251a0837b0a71", func := "example.com/ennuste/ennuste/zzlaws_pkg_sim_b1.FnServerAdmitsInTurnSharingBlocks", spec := "fnServerAdmitsInTurnSharingBlocks", unfollowed := true, recurses := true, apart := false }
def FnServerAdmitsInTurnSharingBlocksSaid : Prop := fnServerAdmitsInTurnSharingBlocksRow.holds Try.pinned (OpenSpec.ofChange fnServerAdmitsInTurnSharingBlocksSpec)

/-- ITS FALSE NEIGHBOUR: 'it returns false'. Refute it at one input. -/
def fnServerAdmitsInTurnSharingBlocksWrong : ChangeSpec := { name := "fnServerAdmitsInTurnSharingBlocks", fn := fun _ => fun
  | [d1, d2, d3, d4, d5] => { results := [.lit (.bool false)], args := [d1, d2, d3, d4, d5] }
  | _ => none }
def FnServerAdmitsInTurnSharingBlocksWrongFalsely : Prop := fnServerAdmitsInTurnSharingBlocksRow.holds Try.pinned (OpenSpec.ofChange fnServerAdmitsInTurnSharingBlocksWrong)

end Rows
end Go.Proofs.Qxb6614494a

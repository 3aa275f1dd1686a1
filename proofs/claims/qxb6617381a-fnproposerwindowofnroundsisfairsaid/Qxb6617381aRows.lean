/-
  No cell of these rows narrows 'for every input' (looked for: loops, veiled, ifaces, maps, wideKeys, modest, calm, conditions, laid).
  DERIVED. THE GIVEN ROWS OF THIS SEAT. 2 by the template 'for every input the law returns true; each argument reads behind the call as it read before'; 0 by the template 'total and deterministic' (their statements: Qxb6617381aTotals.lean).
  GIVEN WITH THE SEED: the statements are not yours to turn. If you find one false, say at which input.
  Laid BY PROGRAM, IN A SANDBOX (cutbox-rows.mjs): the forced cells as the released guide's own fill.sh prints them over the translation 272cf0a2e5fc2ff0… (all of the seat's roots in one cut). By AI agents, Wed Nov 11 2026. No macro, syntax, notation, axiom, sorry.
-/
import Derived.Test.Qxb6617381aChecked
import GoSem.Claim
import GoSem.ClaimJoined
import GoSem.ClaimMapViews
import Derived.JoinedTies
import Derived.KernelRfl
namespace Go.Proofs.Qxb6617381a
/- THE CELL 'sum', in the pinned program and in every row, IS THE sha256 OF THE DUMP (.gsa) THAT Qxb6617381aProg.lean LOADS. Nothing in Lean hashes anything: it is a label: what it is worth is what the hold of that sum in a sandbox is worth. -/
noncomputable def Try.pinned : Pinned := { name := "qxb6617381a", sum := "272cf0a2e5fc2ff0129d1ff74c14cfce3054c14c90e6bdd0fac4e86c434808e8", checked := Try.checked }
namespace Rows
def none {H : Type} : Left H := { results := [], args := [] }

/-- 'zzlaws_root_b1.FnProposerNextRoundAndHeightRotate': WHATEVER THE INPUT: true; the input reads as it did. -/
def fnProposerNextRoundAndHeightRotateSpec : ChangeSpec := { name := "fnProposerNextRoundAndHeightRotate", fn := fun _ => fun
  | [d1, d2, d3] => { results := [.lit (.bool true)], args := [d1, d2, d3] }
  | _ => none }
def fnProposerNextRoundAndHeightRotateRow : OpenClaim := { program := "qxb6617381a", sum := "272cf0a2e5fc2ff0129d1ff74c14cfce3054c14c90e6bdd0fac4e86c434808e8", func := "example.com/roundhouse/roundhouse/zzlaws_root_b1.FnProposerNextRoundAndHeightRotate", spec := "fnProposerNextRoundAndHeightRotate", apart := false }
def FnProposerNextRoundAndHeightRotateSaid : Prop := fnProposerNextRoundAndHeightRotateRow.holds Try.pinned (OpenSpec.ofChange fnProposerNextRoundAndHeightRotateSpec)

/-- ITS FALSE NEIGHBOUR: 'it returns false'. Refute it at one input. -/
def fnProposerNextRoundAndHeightRotateWrong : ChangeSpec := { name := "fnProposerNextRoundAndHeightRotate", fn := fun _ => fun
  | [d1, d2, d3] => { results := [.lit (.bool false)], args := [d1, d2, d3] }
  | _ => none }
def FnProposerNextRoundAndHeightRotateWrongFalsely : Prop := fnProposerNextRoundAndHeightRotateRow.holds Try.pinned (OpenSpec.ofChange fnProposerNextRoundAndHeightRotateWrong)

/-- 'zzlaws_root_b1.FnProposerWindowOfNRoundsIsFair': WHATEVER THE INPUT: true; the input reads as it did. -/
def fnProposerWindowOfNRoundsIsFairSpec : ChangeSpec := { name := "fnProposerWindowOfNRoundsIsFair", fn := fun _ => fun
  | [d1, d2, d3] => { results := [.lit (.bool true)], args := [d1, d2, d3] }
  | _ => none }
def fnProposerWindowOfNRoundsIsFairRow : OpenClaim := { program := "qxb6617381a", sum := "272cf0a2e5fc2ff0129d1ff74c14cfce3054c14c90e6bdd0fac4e86c434808e8", func := "example.com/roundhouse/roundhouse/zzlaws_root_b1.FnProposerWindowOfNRoundsIsFair", spec := "fnProposerWindowOfNRoundsIsFair", apart := false }
def FnProposerWindowOfNRoundsIsFairSaid : Prop := fnProposerWindowOfNRoundsIsFairRow.holds Try.pinned (OpenSpec.ofChange fnProposerWindowOfNRoundsIsFairSpec)

/-- ITS FALSE NEIGHBOUR: 'it returns false'. Refute it at one input. -/
def fnProposerWindowOfNRoundsIsFairWrong : ChangeSpec := { name := "fnProposerWindowOfNRoundsIsFair", fn := fun _ => fun
  | [d1, d2, d3] => { results := [.lit (.bool false)], args := [d1, d2, d3] }
  | _ => none }
def FnProposerWindowOfNRoundsIsFairWrongFalsely : Prop := fnProposerWindowOfNRoundsIsFairRow.holds Try.pinned (OpenSpec.ofChange fnProposerWindowOfNRoundsIsFairWrong)

end Rows
end Go.Proofs.Qxb6617381a

/-
  No cell of these rows narrows 'for every input' (looked for: loops, veiled, ifaces, maps, wideKeys, modest, calm, conditions, laid).
  DERIVED. THE GIVEN ROWS OF THIS SEAT. 4 by the template 'for every input the law returns true; each argument reads behind the call as it read before'; 0 by the template 'total and deterministic' (their statements: Qxb6617286aTotals.lean).
  GIVEN WITH THE SEED: the statements are not yours to turn. If you find one false, say at which input.
  Laid BY PROGRAM, IN A SANDBOX (cutbox-rows.mjs): the forced cells as the released guide's own fill.sh prints them over the translation fbad6a726e0597ff… (all of the seat's roots in one cut). By AI agents, Wed Nov 11 2026. No macro, syntax, notation, axiom, sorry.
-/
import Derived.Test.Qxb6617286aChecked
import GoSem.Claim
import GoSem.ClaimJoined
import GoSem.ClaimMapViews
import Derived.JoinedTies
import Derived.KernelRfl
namespace Go.Proofs.Qxb6617286a
/- THE CELL 'sum', in the pinned program and in every row, IS THE sha256 OF THE DUMP (.gsa) THAT Qxb6617286aProg.lean LOADS. Nothing in Lean hashes anything: it is a label: what it is worth is what the hold of that sum in a sandbox is worth. -/
noncomputable def Try.pinned : Pinned := { name := "qxb6617286a", sum := "fbad6a726e0597ff54e1b9949a353301fe1e1a96ba90e90af43a18317b7f6d7b", checked := Try.checked }
namespace Rows
def none {H : Type} : Left H := { results := [], args := [] }

/-- 'zzlaws_root_b1.FnNamedNamesTheCarriedPeers': WHATEVER THE INPUT: true; the input reads as it did. -/
def fnNamedNamesTheCarriedPeersSpec : ChangeSpec := { name := "fnNamedNamesTheCarriedPeers", fn := fun _ => fun
  | [d] => { results := [.lit (.bool true)], args := [d] }
  | _ => none }
def fnNamedNamesTheCarriedPeersRow : OpenClaim := { program := "qxb6617286a", sum := "fbad6a726e0597ff54e1b9949a353301fe1e1a96ba90e90af43a18317b7f6d7b", func := "example.com/rumorwalk/rumorwalk/zzlaws_root_b1.FnNamedNamesTheCarriedPeers", spec := "fnNamedNamesTheCarriedPeers", apart := false }
def FnNamedNamesTheCarriedPeersSaid : Prop := fnNamedNamesTheCarriedPeersRow.holds Try.pinned (OpenSpec.ofChange fnNamedNamesTheCarriedPeersSpec)

/-- ITS FALSE NEIGHBOUR: 'it returns false'. Refute it at one input. -/
def fnNamedNamesTheCarriedPeersWrong : ChangeSpec := { name := "fnNamedNamesTheCarriedPeers", fn := fun _ => fun
  | [d] => { results := [.lit (.bool false)], args := [d] }
  | _ => none }
def FnNamedNamesTheCarriedPeersWrongFalsely : Prop := fnNamedNamesTheCarriedPeersRow.holds Try.pinned (OpenSpec.ofChange fnNamedNamesTheCarriedPeersWrong)

/-- 'zzlaws_root_b1.FnUpkeepTaskSortsKindsIntoThreeTasks': WHATEVER THE INPUT: true; the input reads as it did. -/
def fnUpkeepTaskSortsKindsIntoThreeTasksSpec : ChangeSpec := { name := "fnUpkeepTaskSortsKindsIntoThreeTasks", fn := fun _ => fun
  | [d] => { results := [.lit (.bool true)], args := [d] }
  | _ => none }
def fnUpkeepTaskSortsKindsIntoThreeTasksRow : OpenClaim := { program := "qxb6617286a", sum := "fbad6a726e0597ff54e1b9949a353301fe1e1a96ba90e90af43a18317b7f6d7b", func := "example.com/rumorwalk/rumorwalk/zzlaws_root_b1.FnUpkeepTaskSortsKindsIntoThreeTasks", spec := "fnUpkeepTaskSortsKindsIntoThreeTasks", apart := false }
def FnUpkeepTaskSortsKindsIntoThreeTasksSaid : Prop := fnUpkeepTaskSortsKindsIntoThreeTasksRow.holds Try.pinned (OpenSpec.ofChange fnUpkeepTaskSortsKindsIntoThreeTasksSpec)

/-- ITS FALSE NEIGHBOUR: 'it returns false'. Refute it at one input. -/
def fnUpkeepTaskSortsKindsIntoThreeTasksWrong : ChangeSpec := { name := "fnUpkeepTaskSortsKindsIntoThreeTasks", fn := fun _ => fun
  | [d] => { results := [.lit (.bool false)], args := [d] }
  | _ => none }
def FnUpkeepTaskSortsKindsIntoThreeTasksWrongFalsely : Prop := fnUpkeepTaskSortsKindsIntoThreeTasksRow.holds Try.pinned (OpenSpec.ofChange fnUpkeepTaskSortsKindsIntoThreeTasksWrong)

/-- 'zzlaws_root_b1.FnCountIsMarkedCountPlusSetsHoldingRow': WHATEVER THE INPUT: true; the input reads as it did. -/
def fnCountIsMarkedCountPlusSetsHoldingRowSpec : ChangeSpec := { name := "fnCountIsMarkedCountPlusSetsHoldingRow", fn := fun _ => fun
  | [d1, d2, d3, d4, d5, d6, d7, d8] => { results := [.lit (.bool true)], args := [d1, d2, d3, d4, d5, d6, d7, d8] }
  | _ => none }
def fnCountIsMarkedCountPlusSetsHoldingRowRow : OpenClaim := { program := "qxb6617286a", sum := "fbad6a726e0597ff54e1b9949a353301fe1e1a96ba90e90af43a18317b7f6d7b", func := "example.com/rumorwalk/rumorwalk/zzlaws_root_b1.FnCountIsMarkedCountPlusSetsHoldingRow", spec := "fnCountIsMarkedCountPlusSetsHoldingRow", apart := false }
def FnCountIsMarkedCountPlusSetsHoldingRowSaid : Prop := fnCountIsMarkedCountPlusSetsHoldingRowRow.holds Try.pinned (OpenSpec.ofChange fnCountIsMarkedCountPlusSetsHoldingRowSpec)

/-- ITS FALSE NEIGHBOUR: 'it returns false'. Refute it at one input. -/
def fnCountIsMarkedCountPlusSetsHoldingRowWrong : ChangeSpec := { name := "fnCountIsMarkedCountPlusSetsHoldingRow", fn := fun _ => fun
  | [d1, d2, d3, d4, d5, d6, d7, d8] => { results := [.lit (.bool false)], args := [d1, d2, d3, d4, d5, d6, d7, d8] }
  | _ => none }
def FnCountIsMarkedCountPlusSetsHoldingRowWrongFalsely : Prop := fnCountIsMarkedCountPlusSetsHoldingRowRow.holds Try.pinned (OpenSpec.ofChange fnCountIsMarkedCountPlusSetsHoldingRowWrong)

/-- 'zzlaws_root_b1.FnCountRisesByOneForEachSetHoldingRow': WHATEVER THE INPUT: true; the input reads as it did. -/
def fnCountRisesByOneForEachSetHoldingRowSpec : ChangeSpec := { name := "fnCountRisesByOneForEachSetHoldingRow", fn := fun _ => fun
  | [d1, d2, d3, d4, d5, d6, d7, d8, d9, d10] => { results := [.lit (.bool true)], args := [d1, d2, d3, d4, d5, d6, d7, d8, d9, d10] }
  | _ => none }
def fnCountRisesByOneForEachSetHoldingRowRow : OpenClaim := { program := "qxb6617286a", sum := "fbad6a726e0597ff54e1b9949a353301fe1e1a96ba90e90af43a18317b7f6d7b", func := "example.com/rumorwalk/rumorwalk/zzlaws_root_b1.FnCountRisesByOneForEachSetHoldingRow", spec := "fnCountRisesByOneForEachSetHoldingRow", apart := false }
def FnCountRisesByOneForEachSetHoldingRowSaid : Prop := fnCountRisesByOneForEachSetHoldingRowRow.holds Try.pinned (OpenSpec.ofChange fnCountRisesByOneForEachSetHoldingRowSpec)

/-- ITS FALSE NEIGHBOUR: 'it returns false'. Refute it at one input. -/
def fnCountRisesByOneForEachSetHoldingRowWrong : ChangeSpec := { name := "fnCountRisesByOneForEachSetHoldingRow", fn := fun _ => fun
  | [d1, d2, d3, d4, d5, d6, d7, d8, d9, d10] => { results := [.lit (.bool false)], args := [d1, d2, d3, d4, d5, d6, d7, d8, d9, d10] }
  | _ => none }
def FnCountRisesByOneForEachSetHoldingRowWrongFalsely : Prop := fnCountRisesByOneForEachSetHoldingRowRow.holds Try.pinned (OpenSpec.ofChange fnCountRisesByOneForEachSetHoldingRowWrong)

end Rows
end Go.Proofs.Qxb6617286a

/-
  No cell of these rows narrows 'for every input' (looked for: loops, veiled, ifaces, maps, wideKeys, modest, calm, conditions, laid).
  DERIVED. THE GIVEN ROWS OF THIS SEAT. 3 by the template 'for every input the law returns true; each argument reads behind the call as it read before'; 0 by the template 'total and deterministic' (their statements: Qxb6618652aTotals.lean).
  GIVEN WITH THE SEED: the statements are not yours to turn. If you find one false, say at which input.
  Laid BY PROGRAM, IN A SANDBOX (cutbox-rows.mjs): the forced cells as the released guide's own fill.sh prints them over the translation 17d0372a017fec3a… (all of the seat's roots in one cut). By AI agents, Wed Nov 11 2026. No macro, syntax, notation, axiom, sorry.
-/
import Derived.Test.Qxb6618652aChecked
import GoSem.Claim
import GoSem.ClaimJoined
import GoSem.ClaimMapViews
import Derived.JoinedTies
import Derived.KernelRfl
namespace Go.Proofs.Qxb6618652a
/- THE CELL 'sum', in the pinned program and in every row, IS THE sha256 OF THE DUMP (.gsa) THAT Qxb6618652aProg.lean LOADS. Nothing in Lean hashes anything: it is a label: what it is worth is what the hold of that sum in a sandbox is worth. -/
noncomputable def Try.pinned : Pinned := { name := "qxb6618652a", sum := "17d0372a017fec3af174f0f6b379a1bbc861a9fcbbfe66d7ea0a4e6e7e103744", checked := Try.checked }
namespace Rows
def none {H : Type} : Left H := { results := [], args := [] }

/-- 'zzlaws_pkg_sale_b1.FnEnteredAppendsLikeConcatAndIsInjective': WHATEVER THE INPUT: true; the input reads as it did. -/
def fnEnteredAppendsLikeConcatAndIsInjectiveSpec : ChangeSpec := { name := "fnEnteredAppendsLikeConcatAndIsInjective", fn := fun _ => fun
  | [d1, d2] => { results := [.lit (.bool true)], args := [d1, d2] }
  | _ => none }
def fnEnteredAppendsLikeConcatAndIsInjectiveRow : OpenClaim := { program := "qxb6618652a", sum := "17d0372a017fec3af174f0f6b379a1bbc861a9fcbbfe66d7ea0a4e6e7e103744", func := "example.com/surgegate/surgegate/zzlaws_pkg_sale_b1.FnEnteredAppendsLikeConcatAndIsInjective", spec := "fnEnteredAppendsLikeConcatAndIsInjective", apart := false }
def FnEnteredAppendsLikeConcatAndIsInjectiveSaid : Prop := fnEnteredAppendsLikeConcatAndIsInjectiveRow.holds Try.pinned (OpenSpec.ofChange fnEnteredAppendsLikeConcatAndIsInjectiveSpec)

/-- ITS FALSE NEIGHBOUR: 'it returns false'. Refute it at one input. -/
def fnEnteredAppendsLikeConcatAndIsInjectiveWrong : ChangeSpec := { name := "fnEnteredAppendsLikeConcatAndIsInjective", fn := fun _ => fun
  | [d1, d2] => { results := [.lit (.bool false)], args := [d1, d2] }
  | _ => none }
def FnEnteredAppendsLikeConcatAndIsInjectiveWrongFalsely : Prop := fnEnteredAppendsLikeConcatAndIsInjectiveRow.holds Try.pinned (OpenSpec.ofChange fnEnteredAppendsLikeConcatAndIsInjectiveWrong)

/-- 'zzlaws_pkg_sale_b1.FnEnteredKeepsOrderBehindOneFixedPrefix': WHATEVER THE INPUT: true; the input reads as it did. -/
def fnEnteredKeepsOrderBehindOneFixedPrefixSpec : ChangeSpec := { name := "fnEnteredKeepsOrderBehindOneFixedPrefix", fn := fun _ => fun
  | [d1, d2] => { results := [.lit (.bool true)], args := [d1, d2] }
  | _ => none }
def fnEnteredKeepsOrderBehindOneFixedPrefixRow : OpenClaim := { program := "qxb6618652a", sum := "17d0372a017fec3af174f0f6b379a1bbc861a9fcbbfe66d7ea0a4e6e7e103744", func := "example.com/surgegate/surgegate/zzlaws_pkg_sale_b1.FnEnteredKeepsOrderBehindOneFixedPrefix", spec := "fnEnteredKeepsOrderBehindOneFixedPrefix", apart := false }
def FnEnteredKeepsOrderBehindOneFixedPrefixSaid : Prop := fnEnteredKeepsOrderBehindOneFixedPrefixRow.holds Try.pinned (OpenSpec.ofChange fnEnteredKeepsOrderBehindOneFixedPrefixSpec)

/-- ITS FALSE NEIGHBOUR: 'it returns false'. Refute it at one input. -/
def fnEnteredKeepsOrderBehindOneFixedPrefixWrong : ChangeSpec := { name := "fnEnteredKeepsOrderBehindOneFixedPrefix", fn := fun _ => fun
  | [d1, d2] => { results := [.lit (.bool false)], args := [d1, d2] }
  | _ => none }
def FnEnteredKeepsOrderBehindOneFixedPrefixWrongFalsely : Prop := fnEnteredKeepsOrderBehindOneFixedPrefixRow.holds Try.pinned (OpenSpec.ofChange fnEnteredKeepsOrderBehindOneFixedPrefixWrong)

/-- 'zzlaws_pkg_sale_b1.FnAdmittedIsStockWhenSoldOutAndGrowsByEachGrab': WHATEVER THE INPUT: true; the input reads as it did. -/
def fnAdmittedIsStockWhenSoldOutAndGrowsByEachGrabSpec : ChangeSpec := { name := "fnAdmittedIsStockWhenSoldOutAndGrowsByEachGrab", fn := fun _ => fun
  | [d1, d2, d3, d4, d5, d6, d7, d8] => { results := [.lit (.bool true)], args := [d1, d2, d3, d4, d5, d6, d7, d8] }
  | _ => none }
def fnAdmittedIsStockWhenSoldOutAndGrowsByEachGrabRow : OpenClaim := { program := "qxb6618652a", sum := "17d0372a017fec3af174f0f6b379a1bbc861a9fcbbfe66d7ea0a4e6e7e103744", func := "example.com/surgegate/surgegate/zzlaws_pkg_sale_b1.FnAdmittedIsStockWhenSoldOutAndGrowsByEachGrab", spec := "fnAdmittedIsStockWhenSoldOutAndGrowsByEachGrab", apart := false }
def FnAdmittedIsStockWhenSoldOutAndGrowsByEachGrabSaid : Prop := fnAdmittedIsStockWhenSoldOutAndGrowsByEachGrabRow.holds Try.pinned (OpenSpec.ofChange fnAdmittedIsStockWhenSoldOutAndGrowsByEachGrabSpec)

/-- ITS FALSE NEIGHBOUR: 'it returns false'. Refute it at one input. -/
def fnAdmittedIsStockWhenSoldOutAndGrowsByEachGrabWrong : ChangeSpec := { name := "fnAdmittedIsStockWhenSoldOutAndGrowsByEachGrab", fn := fun _ => fun
  | [d1, d2, d3, d4, d5, d6, d7, d8] => { results := [.lit (.bool false)], args := [d1, d2, d3, d4, d5, d6, d7, d8] }
  | _ => none }
def FnAdmittedIsStockWhenSoldOutAndGrowsByEachGrabWrongFalsely : Prop := fnAdmittedIsStockWhenSoldOutAndGrowsByEachGrabRow.holds Try.pinned (OpenSpec.ofChange fnAdmittedIsStockWhenSoldOutAndGrowsByEachGrabWrong)

end Rows
end Go.Proofs.Qxb6618652a

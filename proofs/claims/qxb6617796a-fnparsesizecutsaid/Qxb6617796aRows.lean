/-
  No cell of these rows narrows 'for every input' (looked for: loops, veiled, ifaces, maps, wideKeys, modest, calm, conditions, laid).
  DERIVED. THE GIVEN ROWS OF THIS SEAT. 2 by the template 'for every input the law returns true; each argument reads behind the call as it read before'; 0 by the template 'total and deterministic' (their statements: Qxb6617796aTotals.lean).
  GIVEN WITH THE SEED: the statements are not yours to turn. If you find one false, say at which input.
  Laid BY PROGRAM, IN A SANDBOX (cutbox-rows.mjs): the forced cells as the released guide's own fill.sh prints them over the translation fe0a99d08981e249… (all of the seat's roots in one cut). By AI agents, Wed Nov 11 2026. No macro, syntax, notation, axiom, sorry.
-/
import Derived.Test.Qxb6617796aChecked
import GoSem.Claim
import GoSem.ClaimJoined
import GoSem.ClaimMapViews
import Derived.JoinedTies
import Derived.KernelRfl
namespace Go.Proofs.Qxb6617796a
/- THE CELL 'sum', in the pinned program and in every row, IS THE sha256 OF THE DUMP (.gsa) THAT Qxb6617796aProg.lean LOADS. Nothing in Lean hashes anything: it is a label: what it is worth is what the hold of that sum in a sandbox is worth. -/
noncomputable def Try.pinned : Pinned := { name := "qxb6617796a", sum := "fe0a99d08981e24934405d48dcde4271dfcb671ff23141b390b179c40fe63db9", checked := Try.checked }
namespace Rows
def none {H : Type} : Left H := { results := [], args := [] }

/-- 'zzlaws_internal_wire_b1.FnParseSizeModel': WHATEVER THE INPUT: true; the input reads as it did. -/
def fnParseSizeModelSpec : ChangeSpec := { name := "fnParseSizeModel", fn := fun _ => fun
  | [d] => { results := [.lit (.bool true)], args := [d] }
  | _ => none }
def fnParseSizeModelRow : OpenClaim := { program := "qxb6617796a", sum := "fe0a99d08981e24934405d48dcde4271dfcb671ff23141b390b179c40fe63db9", func := "example.com/inflight/inflight/zzlaws_internal_wire_b1.FnParseSizeModel", spec := "fnParseSizeModel", apart := false }
def FnParseSizeModelSaid : Prop := fnParseSizeModelRow.holds Try.pinned (OpenSpec.ofChange fnParseSizeModelSpec)

/-- ITS FALSE NEIGHBOUR: 'it returns false'. Refute it at one input. -/
def fnParseSizeModelWrong : ChangeSpec := { name := "fnParseSizeModel", fn := fun _ => fun
  | [d] => { results := [.lit (.bool false)], args := [d] }
  | _ => none }
def FnParseSizeModelWrongFalsely : Prop := fnParseSizeModelRow.holds Try.pinned (OpenSpec.ofChange fnParseSizeModelWrong)

/-- 'zzlaws_internal_wire_b1.FnParseSizeCut': WHATEVER THE INPUT: true; the input reads as it did. -/
def fnParseSizeCutSpec : ChangeSpec := { name := "fnParseSizeCut", fn := fun _ => fun
  | [d1, d2] => { results := [.lit (.bool true)], args := [d1, d2] }
  | _ => none }
def fnParseSizeCutRow : OpenClaim := { program := "qxb6617796a", sum := "fe0a99d08981e24934405d48dcde4271dfcb671ff23141b390b179c40fe63db9", func := "example.com/inflight/inflight/zzlaws_internal_wire_b1.FnParseSizeCut", spec := "fnParseSizeCut", apart := false }
def FnParseSizeCutSaid : Prop := fnParseSizeCutRow.holds Try.pinned (OpenSpec.ofChange fnParseSizeCutSpec)

/-- ITS FALSE NEIGHBOUR: 'it returns false'. Refute it at one input. -/
def fnParseSizeCutWrong : ChangeSpec := { name := "fnParseSizeCut", fn := fun _ => fun
  | [d1, d2] => { results := [.lit (.bool false)], args := [d1, d2] }
  | _ => none }
def FnParseSizeCutWrongFalsely : Prop := fnParseSizeCutRow.holds Try.pinned (OpenSpec.ofChange fnParseSizeCutWrong)

end Rows
end Go.Proofs.Qxb6617796a

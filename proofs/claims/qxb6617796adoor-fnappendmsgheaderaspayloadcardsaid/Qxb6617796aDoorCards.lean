/-
  DERIVED. GIVEN WITH THE SEED: THE CARDS: each row of Qxb6617796aDoorRows.lean that lists a variable, with what it lists TIED to the program's text (the seventh form; the later family's looks); each row that meets fmt, with fmt's text TOLD by the authors' own Lean function (tested against real Go, not proved from fmt's source: count such statements apart). THE CARD IS WHAT COUNTS. Prove the row's statement (the work); the ties are given (Qxb6617796aDoorTie.lean); close each card by the builder's one call (the guide's Derived/Test/ToyasCard.lean, 'card_holds'). Laid BY PROGRAM, IN A SANDBOX (cutbox-door.mjs). By AI agents, Wed Nov 11 2026. No macro, syntax, notation, axiom, sorry.
-/
import Derived.Test.Qxb6617796aDoorRows
import GoSem.ClaimSeven
namespace Go.Proofs.Qxb6617796aDoor
namespace Rows

/-- THE TIED CARD OF 'zzlaws_internal_wire_b1.FnSplitNameShape'. -/
def fnSplitNameShapeCard : Claim7 := { stood := { row := fnSplitNameShapeRow, standIns := [], harness := (true, "c713be5df6cb2f26bada628bf1b7f078c4596b6353935b9a27ad61276ea37c75"), looks := false }, kinds := [], alts := [], laidByText := true, laidKinds := [.data, .pinned], laidTests := true, laidLooks := .later }
def FnSplitNameShapeCardSaid : Prop := Claim7.holds Tryd.pinned (.plain (OpenSpec.ofChange fnSplitNameShapeSpec)) fnSplitNameShapeCard

/-- THE TIED CARD OF 'zzlaws_internal_wire_b1.FnAppendMsgRoundTrip'. -/
def fnAppendMsgRoundTripCard : Claim7 := { stood := { row := fnAppendMsgRoundTripRow, standIns := [], harness := (true, "c713be5df6cb2f26bada628bf1b7f078c4596b6353935b9a27ad61276ea37c75"), looks := false }, kinds := [], alts := [], laidByText := true, laidKinds := [.data, .data, .data, .data, .pinned], laidTests := true, laidLooks := .later }
def FnAppendMsgRoundTripCardSaid : Prop := Claim7.holds Tryd.pinned (.plain (OpenSpec.ofChange fnAppendMsgRoundTripSpec)) fnAppendMsgRoundTripCard

/-- THE TIED CARD OF 'zzlaws_internal_wire_b1.FnAppendMsgHeaderAsPayload'. -/
def fnAppendMsgHeaderAsPayloadCard : Claim7 := { stood := { row := fnAppendMsgHeaderAsPayloadRow, standIns := [], harness := (true, "c713be5df6cb2f26bada628bf1b7f078c4596b6353935b9a27ad61276ea37c75"), looks := false }, kinds := [], alts := [], laidByText := true, laidKinds := [.data, .data, .data], laidTests := true, laidLooks := .later }
def FnAppendMsgHeaderAsPayloadCardSaid : Prop := Claim7.holds Tryd.pinned (.plain (OpenSpec.ofChange fnAppendMsgHeaderAsPayloadSpec)) fnAppendMsgHeaderAsPayloadCard
end Rows
end Go.Proofs.Qxb6617796aDoor

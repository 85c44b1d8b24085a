/-
  DERIVED. GIVEN WITH THE SEED: THE CARDS: each row of Qxb6608660aFmtRows.lean that lists a variable, with what it lists TIED to the program's text (the seventh form; the later family's looks); each row that meets fmt, with fmt's text TOLD by the authors' own Lean function (tested against real Go, not proved from fmt's source: count such statements apart). THE CARD IS WHAT COUNTS. Prove the row's statement (the work); the ties are given (Qxb6608660aFmtTie.lean); close each card by the builder's one call (the guide's Derived/Test/ToyasCard.lean, 'card_holds'). Laid BY PROGRAM, IN A SANDBOX (cutbox-door.mjs). By AI agents, Wed Nov 11 2026. No macro, syntax, notation, axiom, sorry.
-/
import Derived.Test.Qxb6608660aFmtRows
import GoSem.ClaimSeven
namespace Go.Proofs.Qxb6608660aFmt
namespace Rows

/-- THE TOLD CARD OF 'zzlaws_root_b1.FnSendThenReceiveRestoresInbox'. -/
def fnSendThenReceiveRestoresInboxCard : Claim7 := { stood := { row := fnSendThenReceiveRestoresInboxRow, standIns := [], harness := (true, "457552bf8a391d5749182b01fdea7c94b05128955bb66671d15db6a11596adc6"), looks := true }, told := true, goes := false }
def FnSendThenReceiveRestoresInboxToldSaid : Prop := Claim7.holds Tryf.pinned (.plain (OpenSpec.ofChange fnSendThenReceiveRestoresInboxSpec)) fnSendThenReceiveRestoresInboxCard
/-- ITS FALSE NEIGHBOUR. Refute it at one input. -/
def FnSendThenReceiveRestoresInboxToldWrongFalsely : Prop := Claim7.holds Tryf.pinned (.plain (OpenSpec.ofChange fnSendThenReceiveRestoresInboxWrong)) fnSendThenReceiveRestoresInboxCard

/-- THE TOLD CARD OF 'zzlaws_root_b1.FnSendScriptFillsInboxesInOrder'. -/
def fnSendScriptFillsInboxesInOrderCard : Claim7 := { stood := { row := fnSendScriptFillsInboxesInOrderRow, standIns := [], harness := (true, "457552bf8a391d5749182b01fdea7c94b05128955bb66671d15db6a11596adc6"), looks := true }, told := true, goes := false }
def FnSendScriptFillsInboxesInOrderToldSaid : Prop := Claim7.holds Tryf.pinned (.plain (OpenSpec.ofChange fnSendScriptFillsInboxesInOrderSpec)) fnSendScriptFillsInboxesInOrderCard
/-- ITS FALSE NEIGHBOUR. Refute it at one input. -/
def FnSendScriptFillsInboxesInOrderToldWrongFalsely : Prop := Claim7.holds Tryf.pinned (.plain (OpenSpec.ofChange fnSendScriptFillsInboxesInOrderWrong)) fnSendScriptFillsInboxesInOrderCard
end Rows
end Go.Proofs.Qxb6608660aFmt

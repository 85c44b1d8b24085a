/-
  No cell of these rows narrows 'for every input' (looked for: loops, veiled, ifaces, maps, wideKeys, modest, calm, conditions, laid).
  DERIVED. THE GIVEN ROWS OF THIS SEAT. 2 by the template 'for every input the law returns true; each argument reads behind the call as it read before'; 0 by the template 'total and deterministic' (their statements: Qxb6608660aFmtTotals.lean).
  GIVEN WITH THE SEED: the statements are not yours to turn. If you find one false, say at which input.
  Laid BY PROGRAM, IN A SANDBOX (cutbox-rows.mjs): the forced cells as the released guide's own fill.sh prints them over the translation 1fd15f763982f4a1… (all of the seat's roots in one cut). By AI agents, Wed Nov 11 2026. No macro, syntax, notation, axiom, sorry.
-/
import Derived.Test.Qxb6608660aFmtChecked
import GoSem.Claim
import GoSem.ClaimJoined
import GoSem.ClaimMapViews
import Derived.JoinedTies
import Derived.KernelRfl
namespace Go.Proofs.Qxb6608660aFmt
/- THE CELL 'sum', in the pinned program and in every row, IS THE sha256 OF THE DUMP (.gsa) THAT Qxb6608660aFmtProg.lean LOADS. Nothing in Lean hashes anything: it is a label: what it is worth is what the hold of that sum in a sandbox is worth. -/
noncomputable def Tryf.pinned : Pinned := { name := "qxb6608660afmt", sum := "1fd15f763982f4a14d7690cc855a7ca75678dc710b13794d9cf6de20e1787cf5", checked := Tryf.checked }
namespace Rows
def none {H : Type} : Left H := { results := [], args := [] }

/-- 'zzlaws_root_b1.FnSendThenReceiveRestoresInbox': WHATEVER THE INPUT: true; the input reads as it did. -/
def fnSendThenReceiveRestoresInboxSpec : ChangeSpec := { name := "fnSendThenReceiveRestoresInbox", fn := fun _ => fun
  | [d1, d2, d3, d4, d5, d6, d7, d8, d9, d10, d11] => { results := [.lit (.bool true)], args := [d1, d2, d3, d4, d5, d6, d7, d8, d9, d10, d11] }
  | _ => none }
def fnSendThenReceiveRestoresInboxRow : OpenClaim := { program := "qxb6608660afmt", sum := "1fd15f763982f4a14d7690cc855a7ca75678dc710b13794d9cf6de20e1787cf5", func := "example.com/plumbline/plumbline/zzlaws_root_b1.FnSendThenReceiveRestoresInbox", spec := "fnSendThenReceiveRestoresInbox", stops := ["fmt.Sprintf"], inPlace := ["fmt.Sprintf"], apart := false }
/-- NO THEOREM (fmt's text is open here; it may be false): for the released tool's asking of the row's closed facts alone. THE STATEMENT IS 'FnSendThenReceiveRestoresInboxToldSaid' (Qxb6608660aFmtCards.lean). -/
def FnSendThenReceiveRestoresInboxFormAsk : Prop := fnSendThenReceiveRestoresInboxRow.holds Tryf.pinned (OpenSpec.ofChange fnSendThenReceiveRestoresInboxSpec)

/-- ITS FALSE NEIGHBOUR: 'it returns false'. Refute it at one input. -/
def fnSendThenReceiveRestoresInboxWrong : ChangeSpec := { name := "fnSendThenReceiveRestoresInbox", fn := fun _ => fun
  | [d1, d2, d3, d4, d5, d6, d7, d8, d9, d10, d11] => { results := [.lit (.bool false)], args := [d1, d2, d3, d4, d5, d6, d7, d8, d9, d10, d11] }
  | _ => none }
def FnSendThenReceiveRestoresInboxWrongFormAsk : Prop := fnSendThenReceiveRestoresInboxRow.holds Tryf.pinned (OpenSpec.ofChange fnSendThenReceiveRestoresInboxWrong)

/-- 'zzlaws_root_b1.FnSendScriptFillsInboxesInOrder': WHATEVER THE INPUT: true; the input reads as it did. -/
def fnSendScriptFillsInboxesInOrderSpec : ChangeSpec := { name := "fnSendScriptFillsInboxesInOrder", fn := fun _ => fun
  | [d1, d2, d3, d4, d5, d6, d7] => { results := [.lit (.bool true)], args := [d1, d2, d3, d4, d5, d6, d7] }
  | _ => none }
def fnSendScriptFillsInboxesInOrderRow : OpenClaim := { program := "qxb6608660afmt", sum := "1fd15f763982f4a14d7690cc855a7ca75678dc710b13794d9cf6de20e1787cf5", func := "example.com/plumbline/plumbline/zzlaws_root_b1.FnSendScriptFillsInboxesInOrder", spec := "fnSendScriptFillsInboxesInOrder", stops := ["fmt.Sprintf"], inPlace := ["fmt.Sprintf"], apart := false }
/-- NO THEOREM (fmt's text is open here; it may be false): for the released tool's asking of the row's closed facts alone. THE STATEMENT IS 'FnSendScriptFillsInboxesInOrderToldSaid' (Qxb6608660aFmtCards.lean). -/
def FnSendScriptFillsInboxesInOrderFormAsk : Prop := fnSendScriptFillsInboxesInOrderRow.holds Tryf.pinned (OpenSpec.ofChange fnSendScriptFillsInboxesInOrderSpec)

/-- ITS FALSE NEIGHBOUR: 'it returns false'. Refute it at one input. -/
def fnSendScriptFillsInboxesInOrderWrong : ChangeSpec := { name := "fnSendScriptFillsInboxesInOrder", fn := fun _ => fun
  | [d1, d2, d3, d4, d5, d6, d7] => { results := [.lit (.bool false)], args := [d1, d2, d3, d4, d5, d6, d7] }
  | _ => none }
def FnSendScriptFillsInboxesInOrderWrongFormAsk : Prop := fnSendScriptFillsInboxesInOrderRow.holds Tryf.pinned (OpenSpec.ofChange fnSendScriptFillsInboxesInOrderWrong)

end Rows
end Go.Proofs.Qxb6608660aFmt

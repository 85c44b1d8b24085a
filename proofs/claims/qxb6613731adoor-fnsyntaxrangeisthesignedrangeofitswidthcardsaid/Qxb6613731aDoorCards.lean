/-
  DERIVED. GIVEN WITH THE SEED: THE CARDS: each row of Qxb6613731aDoorRows.lean that lists a variable, with what it lists TIED to the program's text (the seventh form; the later family's looks); each row that meets fmt, with fmt's text TOLD by the authors' own Lean function (tested against real Go, not proved from fmt's source: count such statements apart). THE CARD IS WHAT COUNTS. Prove the row's statement (the work); the ties are given (Qxb6613731aDoorTie.lean); close each card by the builder's one call (the guide's Derived/Test/ToyasCard.lean, 'card_holds'). Laid BY PROGRAM, IN A SANDBOX (cutbox-door.mjs). By AI agents, Wed Nov 11 2026. No macro, syntax, notation, axiom, sorry.
-/
import Derived.Test.Qxb6613731aDoorRows
import GoSem.ClaimSeven
namespace Go.Proofs.Qxb6613731aDoor
namespace Rows

/-- THE TIED CARD OF 'zzlaws_internal_syntax_b1.FnSyntaxRangeIsTheSignedRangeOfItsWidth'. -/
def fnSyntaxRangeIsTheSignedRangeOfItsWidthCard : Claim7 := { stood := { row := fnSyntaxRangeIsTheSignedRangeOfItsWidthRow, standIns := [], harness := (true, "cc71bfd65efc94bbb9e2a6841a5377a9683bbac25db912715ce2929ef7032f52"), looks := false }, kinds := [], alts := [], laidByText := true, laidKinds := [.data], laidTests := true, laidLooks := .later }
def FnSyntaxRangeIsTheSignedRangeOfItsWidthCardSaid : Prop := Claim7.holds Tryd.pinned (.plain (OpenSpec.ofChange fnSyntaxRangeIsTheSignedRangeOfItsWidthSpec)) fnSyntaxRangeIsTheSignedRangeOfItsWidthCard
end Rows
end Go.Proofs.Qxb6613731aDoor

/-
  NARROWER THAN 'FOR EVERY INPUT', by the rows' own cells (each row's printed sentence says how): FnSyntaxRangeIsTheSignedRangeOfItsWidth: laid.
  DERIVED. THE GIVEN ROWS OF THIS SEAT. 1 by the template 'for every input the law returns true; each argument reads behind the call as it read before'; 0 by the template 'total and deterministic' (their statements: Qxb6613731aDoorTotals.lean).
  GIVEN WITH THE SEED: the statements are not yours to turn. If you find one false, say at which input.
  Laid BY PROGRAM, IN A SANDBOX (cutbox-rows.mjs): the forced cells as the released guide's own fill.sh prints them over the translation 2f9b276f52684a40… (all of the seat's roots in one cut). By AI agents, Wed Nov 11 2026. No macro, syntax, notation, axiom, sorry.
-/
import Derived.Test.Qxb6613731aDoorChecked
import GoSem.Claim
import GoSem.ClaimJoined
import GoSem.ClaimMapViews
import Derived.JoinedTies
import Derived.KernelRfl
namespace Go.Proofs.Qxb6613731aDoor
/- THE CELL 'sum', in the pinned program and in every row, IS THE sha256 OF THE DUMP (.gsa) THAT Qxb6613731aDoorProg.lean LOADS. Nothing in Lean hashes anything: it is a label: what it is worth is what the hold of that sum in a sandbox is worth. -/
noncomputable def Tryd.pinned : Pinned := { name := "qxb6613731adoor", sum := "2f9b276f52684a400452c59e4e8e6e6f7ebcae6a882cf95b4f98b273a88d6aaf", checked := Tryd.checked }
namespace Rows
def none {H : Type} : Left H := { results := [], args := [] }

/- WHAT THE LISTED PACKAGE-LEVEL VARIABLES READ AS WHEN THE CALL BEGINS. Each datum BY PROGRAM (the guide's laid-datum.mjs) off the statement by which the dump's own 'gosem.cut.vars' lays the variable. In a bare row this is a premise. The card (Qxb6613731aDoorCards.lean) ties it to the program's text. -/
def laid_example_com_keyfence_keyfence_internal_syntax_types {H : Type} : DataW H := .agg [.agg [.lit (.string [73, 78, 84]), .lit (.int .i64 32)], .agg [.lit (.string [86, 65, 82, 67, 72, 65, 82]), .lit (.int .i64 0)], .agg [.lit (.string [66, 73, 71, 73, 78, 84]), .lit (.int .i64 64)], .agg [.lit (.string [68, 65, 84, 69, 84, 73, 77, 69]), .lit (.int .i64 0)]]

/-- 'zzlaws_internal_syntax_b1.FnSyntaxRangeIsTheSignedRangeOfItsWidth': WHATEVER THE INPUT: true; the input reads as it did. -/
def fnSyntaxRangeIsTheSignedRangeOfItsWidthSpec : ChangeSpec := { name := "fnSyntaxRangeIsTheSignedRangeOfItsWidth", vars := ["example.com/keyfence/keyfence/internal/syntax.types"], fn := fun _ => fun
  | [d1, d2, g1] => { results := [.lit (.bool true)], args := [d1, d2], vars := [g1] }
  | _ => none }
def fnSyntaxRangeIsTheSignedRangeOfItsWidthRow : OpenClaim := { program := "qxb6613731adoor", sum := "2f9b276f52684a400452c59e4e8e6e6f7ebcae6a882cf95b4f98b273a88d6aaf", func := "example.com/keyfence/keyfence/zzlaws_internal_syntax_b1.FnSyntaxRangeIsTheSignedRangeOfItsWidth", spec := "fnSyntaxRangeIsTheSignedRangeOfItsWidth", named := ["example.com/keyfence/keyfence/internal/syntax.types"], apart := false, laid := [("example.com/keyfence/keyfence/internal/syntax.types", laid_example_com_keyfence_keyfence_internal_syntax_types)] }
def FnSyntaxRangeIsTheSignedRangeOfItsWidthSaid : Prop := fnSyntaxRangeIsTheSignedRangeOfItsWidthRow.holds Tryd.pinned (OpenSpec.ofChange fnSyntaxRangeIsTheSignedRangeOfItsWidthSpec)

/-- ITS FALSE NEIGHBOUR: 'it returns false'. Refute it at one input. -/
def fnSyntaxRangeIsTheSignedRangeOfItsWidthWrong : ChangeSpec := { name := "fnSyntaxRangeIsTheSignedRangeOfItsWidth", vars := ["example.com/keyfence/keyfence/internal/syntax.types"], fn := fun _ => fun
  | [d1, d2, g1] => { results := [.lit (.bool false)], args := [d1, d2], vars := [g1] }
  | _ => none }
def FnSyntaxRangeIsTheSignedRangeOfItsWidthWrongFalsely : Prop := fnSyntaxRangeIsTheSignedRangeOfItsWidthRow.holds Tryd.pinned (OpenSpec.ofChange fnSyntaxRangeIsTheSignedRangeOfItsWidthWrong)

end Rows
end Go.Proofs.Qxb6613731aDoor

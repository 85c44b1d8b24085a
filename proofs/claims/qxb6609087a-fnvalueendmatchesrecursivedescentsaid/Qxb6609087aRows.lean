/-
  No cell of these rows narrows 'for every input' (looked for: loops, veiled, ifaces, maps, wideKeys, modest, calm, conditions, laid).
  DERIVED. THE GIVEN ROWS OF THIS SEAT. 2 by the template 'for every input the law returns true; each argument reads behind the call as it read before'; 0 by the template 'total and deterministic' (their statements: Qxb6609087aTotals.lean).
  GIVEN WITH THE SEED: the statements are not yours to turn. If you find one false, say at which input.
  Laid BY PROGRAM, IN A SANDBOX (cutbox-rows.mjs): the forced cells as the released guide's own fill.sh prints them over the translation ce4a4bae826ae14c… (all of the seat's roots in one cut). By AI agents, Wed Nov 11 2026. No macro, syntax, notation, axiom, sorry.
-/
import Derived.Test.Qxb6609087aChecked
import GoSem.Claim
import GoSem.ClaimJoined
import GoSem.ClaimMapViews
import Derived.JoinedTies
import Derived.KernelRfl
namespace Go.Proofs.Qxb6609087a
/- THE CELL 'sum', in the pinned program and in every row, IS THE sha256 OF THE DUMP (.gsa) THAT Qxb6609087aProg.lean LOADS. Nothing in Lean hashes anything: it is a label: what it is worth is what the hold of that sum in a sandbox is worth. -/
noncomputable def Try.pinned : Pinned := { name := "qxb6609087a", sum := "ce4a4bae826ae14c9116bf5f25e2d2575bc365427688a04c80154769ebef1e5c", checked := Try.checked }
namespace Rows
def none {H : Type} : Left H := { results := [], args := [] }

/-- 'zzlaws_seriesapi_b1.FnValueEndMatchesRecursiveDescent': WHATEVER THE INPUT: true; the input reads as it did. -/
def fnValueEndMatchesRecursiveDescentSpec : ChangeSpec := { name := "fnValueEndMatchesRecursiveDescent", fn := fun _ => fun
  | [d1, d2] => { results := [.lit (.bool true)], args := [d1, d2] }
  | _ => none }
def fnValueEndMatchesRecursiveDescentRow : OpenClaim := { program := "qxb6609087a", sum := "ce4a4bae826ae14c9116bf5f25e2d2575bc365427688a04c80154769ebef1e5c", func := "example.com/metriglot/metriglot/zzlaws_seriesapi_b1.FnValueEndMatchesRecursiveDescent", spec := "fnValueEndMatchesRecursiveDescent", recurses := true, apart := false }
def FnValueEndMatchesRecursiveDescentSaid : Prop := fnValueEndMatchesRecursiveDescentRow.holds Try.pinned (OpenSpec.ofChange fnValueEndMatchesRecursiveDescentSpec)

/-- ITS FALSE NEIGHBOUR: 'it returns false'. Refute it at one input. -/
def fnValueEndMatchesRecursiveDescentWrong : ChangeSpec := { name := "fnValueEndMatchesRecursiveDescent", fn := fun _ => fun
  | [d1, d2] => { results := [.lit (.bool false)], args := [d1, d2] }
  | _ => none }
def FnValueEndMatchesRecursiveDescentWrongFalsely : Prop := fnValueEndMatchesRecursiveDescentRow.holds Try.pinned (OpenSpec.ofChange fnValueEndMatchesRecursiveDescentWrong)

/-- 'zzlaws_seriesapi_b1.FnValueEndIsLocal': WHATEVER THE INPUT: true; the input reads as it did. -/
def fnValueEndIsLocalSpec : ChangeSpec := { name := "fnValueEndIsLocal", fn := fun _ => fun
  | [d1, d2, d3, d4] => { results := [.lit (.bool true)], args := [d1, d2, d3, d4] }
  | _ => none }
def fnValueEndIsLocalRow : OpenClaim := { program := "qxb6609087a", sum := "ce4a4bae826ae14c9116bf5f25e2d2575bc365427688a04c80154769ebef1e5c", func := "example.com/metriglot/metriglot/zzlaws_seriesapi_b1.FnValueEndIsLocal", spec := "fnValueEndIsLocal", apart := false }
def FnValueEndIsLocalSaid : Prop := fnValueEndIsLocalRow.holds Try.pinned (OpenSpec.ofChange fnValueEndIsLocalSpec)

/-- ITS FALSE NEIGHBOUR: 'it returns false'. Refute it at one input. -/
def fnValueEndIsLocalWrong : ChangeSpec := { name := "fnValueEndIsLocal", fn := fun _ => fun
  | [d1, d2, d3, d4] => { results := [.lit (.bool false)], args := [d1, d2, d3, d4] }
  | _ => none }
def FnValueEndIsLocalWrongFalsely : Prop := fnValueEndIsLocalRow.holds Try.pinned (OpenSpec.ofChange fnValueEndIsLocalWrong)

end Rows
end Go.Proofs.Qxb6609087a

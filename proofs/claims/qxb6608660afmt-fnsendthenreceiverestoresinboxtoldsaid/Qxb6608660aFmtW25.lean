/- My own work on the program: what a law answers. -/
import Derived.Test.Qxb6608660aFmtW24
namespace Go.Proofs.Qxb6608660aFmt
open Go.RowKit
def LawPost (W : World) (e : Ending) (w' : World) : Prop := e = .returned (.bool true) ∧ Below W.heap.size W w'
end Go.Proofs.Qxb6608660aFmt

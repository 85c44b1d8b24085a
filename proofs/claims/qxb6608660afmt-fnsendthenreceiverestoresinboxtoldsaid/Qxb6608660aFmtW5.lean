import Derived.Test.Qxb6608660aFmtW4
namespace Go.Proofs.Qxb6608660aFmt
open Go.RowKit

/-- The node's cells. -/
def nodeCells (nm : ByteArray) (ix : Int) (inb sts : Value) : Array Value := #[.string nm, .int .i64 ix, .nilIface, inb, sts, .nilFunc, .bool false, .bool false]

set_option maxRecDepth 100000 in
set_option maxHeartbeats 400000 in
theorem newNode_any (nm : ByteArray) (ix : Int) (a : Option Addr) (n c : Nat) (a1 : Option Addr) (n1 c1 : Nat) (w : World) :
    Calls Tryf.prog 25 #[.string nm, .int .i64 ix, .slice a n c, .slice a1 n1 c1] w fun e w' => e = .returned (.pointer (some ⟨w.heap.size, 0, none⟩)) ∧ w' = w.alloc (.cells (nodeCells nm ix (.slice a n c) (.slice a1 n1 c1)) 103) := by
  go_enter Tryf.func25, Tryf.ntmps25
  go_wp2
  go_ret
  exact ⟨rfl, rfl⟩

set_option maxHeartbeats 400000 in
theorem nodeInbox_any (b : Nat) (v : Value) (w : World) (hv : w.cell? ⟨b, 3, none⟩ = some v) :
    Calls Tryf.prog 16 #[.pointer (some ⟨b, 0, none⟩)] w fun e w' => e = .returned v ∧ w' = w := by
  go_enter Tryf.func16, Tryf.ntmps16
  go_wp2
  go_ret
  exact ⟨rfl, rfl⟩

set_option maxHeartbeats 400000 in
theorem nodeStamps_any (b : Nat) (v : Value) (w : World) (hv : w.cell? ⟨b, 4, none⟩ = some v) :
    Calls Tryf.prog 17 #[.pointer (some ⟨b, 0, none⟩)] w fun e w' => e = .returned v ∧ w' = w := by
  go_enter Tryf.func17, Tryf.ntmps17
  go_wp2
  go_ret
  exact ⟨rfl, rfl⟩

end Go.Proofs.Qxb6608660aFmt

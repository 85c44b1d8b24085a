/- My own work on the program: what a request gives a fact (facts.of). -/
import Derived.Test.Qxb6614456aW4
namespace Go.Proofs.Qxb6614456a
open Go.RowKit
set_option linter.unusedVariables false
set_option linter.unusedSimpArgs false

def OfPost (w : World) (v : Value) (e : Ending) (w' : World) : Prop := e = .returned v ∧ Below w.heap.size w w'

set_option maxRecDepth 100000 in
set_option maxHeartbeats 1000000 in
theorem of_tagged (Bf Bm n : Nat) (f : Int → ByteArray → Option (Nat × Nat)) (k : Int) (t : ByteArray) (w : World) (hc : w.cell? ⟨Bf, 51, none⟩ = some (.map (some Bm))) (hm : MapK w Bm n f)
    (hk : 0 ≤ k ∧ k < 49) (ht : t.size ≤ maxLen) (hn : t.toList.isEmpty = false) :
    Calls Try.prog 33 #[.pointer (some ⟨Bf, 0, none⟩), .agg #[.int .i64 k, .string t]] w (OfPost w (sv (f k t))) := by
  have hlf : Bf < w.heap.size := World.block_lt_of_cell? w _ hc
  have hm1 : MapK (w.alloc (.cells #[.int .i64 k, .string t] 85)).drew Bm n f := hm.of_block (heap_alloc_old w _ hm.lt)
  have hlk : (Instr.lookup 93 (.map (some Bm)) (.agg #[.int .i64 k, .string t]) false).run Try.prog (w.alloc (.cells #[.int .i64 k, .string t] 85)).drew = .ok (sv (f k t)) (w.alloc (.cells #[.int .i64 k, .string t] 85)).drew := hm1.look hk ht
  generalize sv (f k t) = v at hlk
  have HB : Hid (Below w.heap.size w (w.alloc (.cells #[.int .i64 k, .string t] 85)).drew) := ((Below.refl _ _).alloc (Nat.le_refl _) _).drew
  clear hm hm1
  go_enter Try.func33, Try.ntmps33
  go_wp2_with fail
  go_region
  all_goals
    go_wp2_with fail
    go_ret
    exact ⟨rfl, HB.out⟩

set_option maxRecDepth 100000 in
set_option maxHeartbeats 1000000 in
theorem of_keyed (Bf : Nat) (v : Value) (k : Nat) (t : ByteArray) (w : World) (hc : w.cell? ⟨Bf, 1 + k, none⟩ = some v)
    (hk : k < 49) (hn : t.toList.isEmpty = true) :
    Calls Try.prog 33 #[.pointer (some ⟨Bf, 0, none⟩), .agg #[.int .i64 k, .string t]] w (OfPost w v) := by
  have hlf : Bf < w.heap.size := World.block_lt_of_cell? w _ hc
  have HB : Hid (∀ nq, Below w.heap.size w ((w.alloc (.cells #[.int .i64 k, .string t] 85)).drewN nq)) := fun nq => ((Below.refl _ _).alloc (Nat.le_refl _) _).trans ⟨rfl, rfl, rfl, Nat.le_refl _, fun _ _ => rfl⟩
  go_enter Try.func33, Try.ntmps33
  go_wp2_with fail
  go_quiet (fail)
  go_wp2_with fail
  go_ret
  exact ⟨rfl, HB.out _⟩
end Go.Proofs.Qxb6614456a

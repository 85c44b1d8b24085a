import Derived.Test.Qxb6608660aW4
namespace Go.Proofs.Qxb6608660a
open Go.RowKit

/-- How many of the first k are not taken. -/
def cnt (T : Nat → Bool) : Nat → Nat
  | 0 => 0
  | k + 1 => cnt T k + if T k then 0 else 1
theorem cnt_le (T : Nat → Bool) (k : Nat) : cnt T k ≤ k := by
  induction k with
  | zero => simp [cnt]
  | succ k ih => simp only [cnt]; split <;> omega
theorem cnt_mono (T : Nat → Bool) {j k : Nat} (h : j ≤ k) : cnt T j ≤ cnt T k := by
  induction k with
  | zero => obtain rfl : j = 0 := by omega
            exact Nat.le_refl _
  | succ k ih =>
    rcases (show j ≤ k ∨ j = k + 1 from by omega) with e | rfl
    · have := ih e; simp only [cnt]; omega
    · exact Nat.le_refl _

/-- The first n cells at the address are the Booleans T. -/
def BoolsAt (w : World) (a : Option Addr) (n : Nat) (T : Nat → Bool) : Prop :=
  ∀ i, i < n → ∃ x o, a = some ⟨x, o, none⟩ ∧ w.cell? ⟨x, o + i, none⟩ = some (.bool (T i))

set_option maxRecDepth 100000 in
set_option maxHeartbeats 400000 in
theorem rankFree_any (a : Option Addr) (n c : Nat) (T : Nat → Bool) (p q : Nat) (w : World) (hn : n ≤ 1048576) (ha : BoolsAt w a n T)
    (hq : q < n) (hT : T q = false) (hc : cnt T q = p) :
    Calls Try.prog 11 #[.slice a n c, .int .i64 p] w fun e w' => e = .returned (.int .i64 q) ∧ w' = w := by
  have hcq := cnt_le T q
  have HC : Hid (cnt T q = p) := hc
  clear hc
  go_enter Try.func11, Try.ntmps11
  go_wp2
  go_loop [5, 6] (fun s i => ∃ k : Nat, k ≤ q ∧ i = .int .i64 k ∧ s = .int .i64 (cnt T k)) (fun _ i => n - (intOf i).toNat)
  case atStart => exact ⟨0, Nat.zero_le _, rfl, rfl⟩
  case round =>
    obtain ⟨k, hk, rfl, rfl⟩ := hrel
    obtain ⟨x, o, rfl, hca⟩ := ha k (by omega)
    clear ha
    have h1 : (k : Int) < (n : Int) := by omega
    have hck := cnt_le T k
    by_cases hlt : k < q
    · have hs : Hid (cnt T (k + 1) = cnt T k + if T k then 0 else 1) := rfl
      have hm := cnt_mono T (show k + 1 ≤ q from hlt)
      by_cases ht : T k = true
      · go_wp2
        go_round
        case rel => exact ⟨k + 1, by omega, by go_num, by rw [hs.out]; simp [ht]⟩
        case measure => simp [intOf]; omega
      · have ht' : T k = false := by simpa using ht
        have hne : ((cnt T k : Int) == (p : Int)) = false := by
          have := hs.out
          simp [ht'] at this
          have := HC.out
          rw [beq_eq_false_iff_ne]
          omega
        go_wp2
        go_round
        case rel => exact ⟨k + 1, by omega, by go_num, by rw [hs.out]; simp [ht']⟩
        case measure => simp [intOf]; omega
    · obtain rfl : k = q := by omega
      have he : ((cnt T k : Int) == (p : Int)) = true := by rw [HC.out]; simp
      go_wp2
      go_ret
      exact ⟨rfl, rfl⟩

/-- The node's cells. -/
def nodeCells (inb sts : Value) : Array Value := #[.string ByteArray.empty, .int .i64 0, .nilIface, inb, sts, .nilFunc, .bool false, .bool false]

set_option maxRecDepth 100000 in
set_option maxHeartbeats 400000 in
theorem newNode_any (a : Option Addr) (n c : Nat) (a1 : Option Addr) (n1 c1 : Nat) (w : World) :
    Calls Try.prog 8 #[.string ByteArray.empty, .int .i64 0, .slice a n c, .slice a1 n1 c1] w fun e w' => e = .returned (.pointer (some ⟨w.heap.size, 0, none⟩)) ∧ w' = w.alloc (.cells (nodeCells (.slice a n c) (.slice a1 n1 c1)) 74) := by
  go_enter Try.func8, Try.ntmps8
  go_wp2
  go_ret
  exact ⟨rfl, rfl⟩

set_option maxHeartbeats 400000 in
theorem nodeInbox_any (b : Nat) (v : Value) (w : World) (hv : w.cell? ⟨b, 3, none⟩ = some v) :
    Calls Try.prog 15 #[.pointer (some ⟨b, 0, none⟩)] w fun e w' => e = .returned v ∧ w' = w := by
  go_enter Try.func15, Try.ntmps15
  go_wp2
  go_ret
  exact ⟨rfl, rfl⟩

set_option maxHeartbeats 400000 in
theorem nodeStamps_any (b : Nat) (v : Value) (w : World) (hv : w.cell? ⟨b, 4, none⟩ = some v) :
    Calls Try.prog 16 #[.pointer (some ⟨b, 0, none⟩)] w fun e w' => e = .returned v ∧ w' = w := by
  go_enter Try.func16, Try.ntmps16
  go_wp2
  go_ret
  exact ⟨rfl, rfl⟩

end Go.Proofs.Qxb6608660a

import Derived.Test.Qxb6608660aFmtProg
import Derived.WalkKit
import Derived.WalkSpells
import Derived.WalkLawsBesides
import Derived.Deep.QuietTactic
import Derived.BigQuiet
namespace Go.Proofs.Qxb6608660aFmt
open Go.RowKit

set_option maxHeartbeats 400000 in
theorem zzMessage_any (f t : ByteArray) (p : Int) (w : World) :
    Calls Tryf.prog 28 #[.string f, .string t, .int .i64 p] w fun e w' => e = .returned (.agg #[.string f, .string t, .iface 3 (.int .i64 p)]) ∧ Below w.heap.size w w' := by
  go_enter Tryf.func28, Tryf.ntmps28
  go_wp2
  exact bodyPost_ret (v := .agg #[.string f, .string t, .iface 3 (.int .i64 p)]) (by simp [results, Tryf.results28, go_sem]) rfl ⟨rfl, (Below.refl _ _).alloc (Nat.le_refl _) _⟩

set_option maxHeartbeats 400000 in
theorem newStamp_any (a : Option Addr) (n c : Nat) (p : Int) (w : World) :
    Calls Tryf.prog 35 #[.slice a n c, .int .i64 p] w fun e w' => e = .returned (.agg #[.slice a n c, .int .i64 p]) ∧ Below w.heap.size w w' := by
  go_enter Tryf.func35, Tryf.ntmps35
  go_wp2
  exact bodyPost_ret (v := .agg #[.slice a n c, .int .i64 p]) (by simp [results, Tryf.results35, go_sem]) rfl ⟨rfl, (Below.refl _ _).alloc (Nat.le_refl _) _⟩

theorem assert_int (p : Int) (w : World) : (Instr.typeAssert (.iface 3 (.int .i64 p)) 20 3 true).run Tryf.prog w = .ok (.tuple #[.int .i64 p, .bool true]) w := by kernel_rfl

set_option maxRecDepth 100000 in
set_option maxHeartbeats 400000 in
theorem payload_any (f t : ByteArray) (p : Int) (w : World) :
    Calls Tryf.prog 31 #[.agg #[.string f, .string t, .iface 3 (.int .i64 p)]] w fun e w' => e = .returned (.int .i64 p) ∧ Below w.heap.size w w' := by
  have hta := assert_int
  go_enter Tryf.func31, Tryf.ntmps31
  go_wp2
  go_ret
  exact ⟨rfl, (Below.refl _ _).alloc (Nat.le_refl _) _⟩

set_option maxHeartbeats 400000 in
theorem stampClock_any (a : Option Addr) (n c : Nat) (p : Int) (w : World) :
    Calls Tryf.prog 33 #[.agg #[.slice a n c, .int .i64 p]] w fun e w' => e = .returned (.slice a n c) ∧ Below w.heap.size w w' := by
  go_enter Tryf.func33, Tryf.ntmps33
  go_wp2
  go_ret
  exact ⟨rfl, (Below.refl _ _).alloc (Nat.le_refl _) _⟩

set_option maxHeartbeats 400000 in
theorem stampNumber_any (a : Option Addr) (n c : Nat) (p : Int) (w : World) :
    Calls Tryf.prog 34 #[.agg #[.slice a n c, .int .i64 p]] w fun e w' => e = .returned (.int .i64 p) ∧ Below w.heap.size w w' := by
  go_enter Tryf.func34, Tryf.ntmps34
  go_wp2
  go_ret
  exact ⟨rfl, (Below.refl _ _).alloc (Nat.le_refl _) _⟩

set_option maxRecDepth 100000 in
set_option maxHeartbeats 400000 in
theorem msgIs_any (f t : ByteArray) (p : Int) (w : World) :
    Calls Tryf.prog 19 #[.agg #[.string f, .string t, .iface 3 (.int .i64 p)], .string f, .string t, .int .i64 p] w fun e w' => e = .returned (.bool true) ∧ Below w.heap.size w w' := by
  go_enter Tryf.func19, Tryf.ntmps19
  go_wp2_with (go_at_call 31; refine (payload_any _ _ _ _).mono ?_; rintro e w1 ⟨rfl, hb⟩)
  go_ret
  exact ⟨rfl, ((Below.refl _ _).alloc (Nat.le_refl _) _).trans (hb.mono (by simp))⟩

set_option maxRecDepth 100000 in
set_option maxHeartbeats 400000 in
theorem intsEqual_any (a b : Option Addr) (n c d : Nat) (Z : Nat → Int) (w : World) (hn : n ≤ 1048576)
    (ha : ∀ i, i < n → ∃ x o, a = some ⟨x, o, none⟩ ∧ w.cell? ⟨x, o + i, none⟩ = some (.int .i64 (Z i)))
    (hb : ∀ i, i < n → ∃ x o, b = some ⟨x, o, none⟩ ∧ w.cell? ⟨x, o + i, none⟩ = some (.int .i64 (Z i))) :
    Calls Tryf.prog 32 #[.slice a n c, .slice b n d] w fun e w' => e = .returned (.bool true) ∧ ∃ m, w' = w.drewN m := by
  go_enter Tryf.func32, Tryf.ntmps32
  go_wp2
  go_loopw [5] (fun i wr => ∃ k : Nat, k ≤ n ∧ i = .int .i64 k ∧ ∃ m, wr = w.drewN m) (fun i _ => n - (intOf i).toNat)
  case atStart => exact ⟨0, Nat.zero_le _, rfl, 0, rfl⟩
  case round =>
    obtain ⟨k, hk, rfl, m, rfl⟩ := hrel
    by_cases hlt : k < n
    · obtain ⟨x, o, rfl, hca⟩ := ha k hlt
      obtain ⟨y, q, rfl, hcb⟩ := hb k hlt
      clear ha hb
      have h1 : (k : Int) < (n : Int) := by omega
      go_wp2
      go_quiet (fail)
      go_wp2
      go_roundw
      case rel => exact ⟨k + 1, by omega, by go_num, _, rfl⟩
      case measure => simp [intOf]; omega
    · clear ha hb
      go_wp2
      go_ret
      exact ⟨rfl, _, rfl⟩

end Go.Proofs.Qxb6608660aFmt

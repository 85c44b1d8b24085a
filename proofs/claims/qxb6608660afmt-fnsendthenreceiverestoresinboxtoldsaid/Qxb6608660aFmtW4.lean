import Derived.Test.Qxb6608660aFmtW3
namespace Go.Proofs.Qxb6608660aFmt
open Go.RowKit

/-- The elements of a slice of Stamp (or of the project's own stamp): the clock's slice, its numbers, the number. -/
def StampsAt (w : World) (a : Option Addr) (n : Nat) (A : Nat → Option Addr) (L C : Nat → Nat) (Z : Nat → Nat → Int) (N : Nat → Int) : Prop :=
  ∀ i, i < n → ∃ x o, a = some ⟨x, o, none⟩ ∧ w.cell? ⟨x, o + i * 2, none⟩ = some (.slice (A i) (L i) (C i)) ∧ w.cell? ⟨x, o + i * 2 + 1, none⟩ = some (.int .i64 (N i)) ∧ IntsAt w (A i) (L i) (Z i) ∧ (A i = none → L i = 0)

theorem StampsAt.below {B : Nat} {w w' : World} {a : Option Addr} {n : Nat} {A : Nat → Option Addr} {L C : Nat → Nat} {Z : Nat → Nat → Int} {N : Nat → Int} (h : StampsAt w a n A L C Z N) (hb : Below B w w') (hB : w.heap.size ≤ B) : StampsAt w' a n A L C Z N := by
  intro i hi
  obtain ⟨x, o, e, h1, h2, h3, h4⟩ := h i hi
  have := World.block_lt_of_cell? w _ h1
  simp at this
  exact ⟨x, o, e, (hb.cell (by simp; omega)).trans h1, (hb.cell (by simp; omega)).trans h2, h3.below hb hB, h4⟩

set_option maxRecDepth 100000 in
set_option maxHeartbeats 400000 in
theorem stampBytes_any (a : Option Addr) (n c : Nat) (A : Nat → Option Addr) (L C : Nat → Nat) (Z : Nat → Nat → Int) (N : Nat → Int) (r : Int) (w : World) (hn : n ≤ 1048576) (ha : StampsAt w a n A L C Z N) :
    Calls Tryf.prog 8 #[.slice a n c, .int .i64 r] w fun e w' => (∃ r', e = .returned (.int .i64 r')) ∧ w' = w := by
  go_enter Tryf.func8, Tryf.ntmps8
  go_wp2
  go_loop [1, 5] (fun t i => ∃ (k : Nat) (r : Int), k ≤ n ∧ i = .int .i64 k ∧ t = .int .i64 r) (fun _ i => n - (intOf i).toNat)
  case atStart => exact ⟨0, r, Nat.zero_le _, rfl, rfl⟩
  case round =>
    obtain ⟨k, r, hk, rfl, rfl⟩ := hrel
    by_cases hlt : k < n
    · obtain ⟨x, o, rfl, hc0, hc1, _⟩ := ha k hlt
      clear ha
      have h1 : (k : Int) < (n : Int) := by omega
      by_cases hr : r ≤ 1048576
      · go_wp2
        go_round
        case rel => exact ⟨k + 1, _, by omega, by go_num, rfl⟩
        case measure => simp [intOf]; omega
      · go_wp2
        go_ret
        exact ⟨⟨_, rfl⟩, rfl⟩
    · clear ha
      go_wp2
      go_ret
      exact ⟨⟨_, rfl⟩, rfl⟩

end Go.Proofs.Qxb6608660aFmt

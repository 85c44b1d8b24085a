import Derived.Test.Qxb6608660aFmtW2
namespace Go.Proofs.Qxb6608660aFmt
open Go.RowKit

theorem below_drewN' {B : Nat} {w : World} (n : Nat) : Below B w (w.drewN n) := below_drewN (Below.refl _ _) n

set_option maxRecDepth 100000 in
set_option maxHeartbeats 400000 in
theorem stampIs_any (a b : Option Addr) (n c d : Nat) (p : Int) (Z : Nat → Int) (w : World) (hn : n ≤ 1048576)
    (ha : IntsAt w a n Z) (hb : IntsAt w b n Z) :
    Calls Tryf.prog 20 #[.agg #[.slice a n c, .int .i64 p], .slice b n d, .int .i64 p] w fun e w' => e = .returned (.bool true) ∧ Below w.heap.size w w' := by
  go_enter Tryf.func20, Tryf.ntmps20
  go_wp2_with fail
  refine (stampClock_any _ _ _ _ _).mono ?_
  rintro e w1 ⟨rfl, hb1⟩
  have hw1 : Below w.heap.size w w1 := ((Below.refl _ _).alloc (Nat.le_refl _) _).trans (hb1.mono (by simp))
  have hc1 := hb1.cell (p := ⟨w.heap.size, 0, none⟩) (by simp)
  have hc2 := hb1.cell (p := ⟨w.heap.size, 1, none⟩) (by simp)
  simp at hc1 hc2
  have ha1 := ha.below hw1 (Nat.le_refl _)
  have hb2 := hb.below hw1 (Nat.le_refl _)
  go_wp2_with fail
  refine (intsEqual_any a b n c d Z _ hn ha1 hb2).mono ?_
  rintro e w2 ⟨rfl, m, rfl⟩
  have hw2 : Below w.heap.size w (w1.drewN m) := below_drewN hw1 m
  have hz : w.heap.size ≤ w1.heap.size := hw1.size
  clear ha hb ha1 hb2 hb1
  go_wp2_with fail
  refine (stampNumber_any _ _ _ _ _).mono ?_
  rintro e w3 ⟨rfl, hb3⟩
  have hw3 : Below w.heap.size w w3 := hw2.trans (hb3.mono (by simpa using hz))
  go_wp2
  go_ret
  exact ⟨rfl, hw3⟩

/-- The elements of a slice of Msg. -/
def MsgsAt (w : World) (a : Option Addr) (n : Nat) (F T : Nat → ByteArray) (Q : Nat → Int) : Prop :=
  ∀ i, i < n → ∃ x o, a = some ⟨x, o, none⟩ ∧ w.cell? ⟨x, o + i * 3, none⟩ = some (.string (F i)) ∧ w.cell? ⟨x, o + i * 3 + 1, none⟩ = some (.string (T i)) ∧ w.cell? ⟨x, o + i * 3 + 2, none⟩ = some (.int .i64 (Q i))

theorem MsgsAt.below {B : Nat} {w w' : World} {a : Option Addr} {n : Nat} {F T : Nat → ByteArray} {Q : Nat → Int} (h : MsgsAt w a n F T Q) (hb : Below B w w') (hB : w.heap.size ≤ B) : MsgsAt w' a n F T Q := by
  intro i hi
  obtain ⟨x, o, e, h1, h2, h3⟩ := h i hi
  have := World.block_lt_of_cell? w _ h1
  simp at this
  exact ⟨x, o, e, (hb.cell (by simp; omega)).trans h1, (hb.cell (by simp; omega)).trans h2, (hb.cell (by simp; omega)).trans h3⟩

set_option maxRecDepth 100000 in
set_option maxHeartbeats 400000 in
theorem msgBytes_any (a : Option Addr) (n c : Nat) (F T : Nat → ByteArray) (Q : Nat → Int) (r : Int) (w : World) (hn : n ≤ 1048576) (ha : MsgsAt w a n F T Q) :
    Calls Tryf.prog 7 #[.slice a n c, .int .i64 r] w fun e w' => (∃ r', e = .returned (.int .i64 r')) ∧ ∃ m, w' = w.drewN m := by
  go_enter Tryf.func7, Tryf.ntmps7
  go_wp2
  go_loopw [1, 5] (fun t i wr => ∃ (k : Nat) (r : Int), k ≤ n ∧ i = .int .i64 k ∧ t = .int .i64 r ∧ ∃ m, wr = w.drewN m) (fun _ i _ => n - (intOf i).toNat)
  case atStart => exact ⟨0, r, Nat.zero_le _, rfl, rfl, 0, rfl⟩
  case round =>
    obtain ⟨k, r, hk, rfl, rfl, m, rfl⟩ := hrel
    by_cases hlt : k < n
    · obtain ⟨x, o, rfl, hc0, hc1, hc2⟩ := ha k hlt
      clear ha
      have h1 : (k : Int) < (n : Int) := by omega
      by_cases hr : r ≤ 1048576
      · go_wp2
        go_quiet (fail)
        go_wp2
        go_roundw
        case rel => exact ⟨k + 1, _, by omega, by go_num, rfl, _, rfl⟩
        case measure => simp [intOf]; omega
      · go_wp2
        go_ret
        exact ⟨⟨_, rfl⟩, _, rfl⟩
    · clear ha
      go_wp2
      go_ret
      exact ⟨⟨_, rfl⟩, _, rfl⟩

end Go.Proofs.Qxb6608660aFmt

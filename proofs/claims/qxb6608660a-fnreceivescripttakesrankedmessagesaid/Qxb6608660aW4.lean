import Derived.Test.Qxb6608660aW3
namespace Go.Proofs.Qxb6608660a
open Go.RowKit

/-- The elements of a slice of Stamp (or of the project's own stamp): the clock's slice, its numbers, the number. -/
def StampsAt (w : World) (a : Option Addr) (n : Nat) (A : Nat → Option Addr) (L C : Nat → Nat) (Z : Nat → Nat → Int) (N : Nat → Int) : Prop :=
  ∀ i, i < n → ∃ x o, a = some ⟨x, o, none⟩ ∧ w.cell? ⟨x, o + i * 2, none⟩ = some (.slice (A i) (L i) (C i)) ∧ w.cell? ⟨x, o + i * 2 + 1, none⟩ = some (.int .i64 (N i)) ∧ IntsAt w (A i) (L i) (Z i) ∧ (A i = none → L i = 0)

theorem StampsAt.below {B : Nat} {w w' : World} {a : Option Addr} {n : Nat} {A : Nat → Option Addr} {L C : Nat → Nat} {Z : Nat → Nat → Int} {N : Nat → Int} (h : StampsAt w a n A L C Z N) (hb : Below B w w') (hB : w.heap.size ≤ B) : StampsAt w' a n A L C Z N := by
  intro i hi
  obtain ⟨x, o, e, h1, h2, h3, h4⟩ := h i hi
  have := World.block_lt_of_cell? w _ h1
  simp at this
  exact ⟨x, o, e, (hb.cell (by simp; omega)).trans h1, (hb.cell (by simp; omega)).trans h2, h3.below hb hB, h4⟩

set_option maxRecDepth 100000 in
set_option maxHeartbeats 400000 in
theorem stampBytes_any (a : Option Addr) (n c : Nat) (A : Nat → Option Addr) (L C : Nat → Nat) (Z : Nat → Nat → Int) (N : Nat → Int) (r : Int) (w : World) (hn : n ≤ 1048576) (ha : StampsAt w a n A L C Z N) :
    Calls Try.prog 7 #[.slice a n c, .int .i64 r] w fun e w' => (∃ r', e = .returned (.int .i64 r')) ∧ w' = w := by
  go_enter Try.func7, Try.ntmps7
  go_wp2
  go_loop [1, 5] (fun t i => ∃ (k : Nat) (r : Int), k ≤ n ∧ i = .int .i64 k ∧ t = .int .i64 r) (fun _ i => n - (intOf i).toNat)
  case atStart => exact ⟨0, r, Nat.zero_le _, rfl, rfl⟩
  case round =>
    obtain ⟨k, r, hk, rfl, rfl⟩ := hrel
    by_cases hlt : k < n
    · obtain ⟨x, o, rfl, hc0, hc1, _⟩ := ha k hlt
      clear ha
      have h1 : (k : Int) < (n : Int) := by omega
      by_cases hr : r ≤ 1048576
      · go_wp2
        go_round
        case rel => exact ⟨k + 1, _, by omega, by go_num, rfl⟩
        case measure => simp [intOf]; omega
      · go_wp2
        go_ret
        exact ⟨⟨_, rfl⟩, rfl⟩
    · clear ha
      go_wp2
      go_ret
      exact ⟨⟨_, rfl⟩, rfl⟩

def ZzPost (n : Nat) (L : Nat → Nat) (w : World) (e : Ending) (w' : World) : Prop :=
  ∃ b, e = .returned (.bool b) ∧ w = w' ∧ (b = true → ∀ i, i < n → L i ≤ 1048576)
theorem zz_no {n : Nat} {L : Nat → Nat} {w : World} : ZzPost n L w (.returned (.bool false)) w := ⟨false, rfl, rfl, by simp⟩

set_option maxRecDepth 100000 in
set_option maxHeartbeats 1000000 in
theorem zzBytes_any (a : Option Addr) (n c : Nat) (F T : Nat → ByteArray) (Q : Nat → Int) (a1 : Option Addr) (n1 c1 : Nat) (A : Nat → Option Addr) (L C : Nat → Nat) (Z : Nat → Nat → Int) (N : Nat → Int)
    (a2 : Option Addr) (n2 c2 : Nat) (w : World) (hn : n ≤ maxLen) (hn1 : n1 ≤ maxLen) (_hn2 : n2 ≤ maxLen) (h0 : MsgsAt w a n F T Q) (h1 : StampsAt w a1 n1 A L C Z N) :
    Calls Try.prog 5 #[.slice a n c, .slice a1 n1 c1, .slice a2 n2 c2] w (ZzPost n1 L w) := by
  unfold maxLen at hn hn1 _hn2
  by_cases g0 : n ≤ 1048576
  · go_enter Try.func5, Try.ntmps5
    go_wp2
    go_loop [7, 8] (fun t i => ∃ (k : Nat) (r : Int), k ≤ n ∧ i = .int .i64 k ∧ t = .int .i64 r) (fun _ i => n - (intOf i).toNat)
    case atStart => exact ⟨0, _, Nat.zero_le _, rfl, rfl⟩
    case round =>
      obtain ⟨k, r, hk, rfl, rfl⟩ := hrel
      by_cases hlt : k < n
      · obtain ⟨x, o, rfl, hc0, hc1, _⟩ := h0 k hlt
        clear h0 h1
        have h1 : (k : Int) < (n : Int) := by omega
        go_wp2
        all_goals first
          | (go_round
             case rel => exact ⟨k + 1, _, by omega, by go_num, rfl⟩
             case measure => simp [intOf]; omega)
          | (go_ret; exact zz_no)
      · clear h0
        by_cases g1 : n1 ≤ 1048576
        · go_wp2
          · go_ret
            exact zz_no
          · go_loop [7, 9] (fun t i => ∃ (k : Nat) (r : Int), k ≤ n1 ∧ i = .int .i64 k ∧ t = .int .i64 r ∧ ∀ i, i < k → L i ≤ 1048576) (fun _ i => n1 - (intOf i).toNat)
            case atStart => exact ⟨0, _, Nat.zero_le _, rfl, rfl, fun i hi => absurd hi (by omega)⟩
            case round =>
              obtain ⟨k, r, hk, rfl, rfl, hL⟩ := hrel
              by_cases hlt : k < n1
              · obtain ⟨x, o, rfl, hc0, hc1, _⟩ := h1 k hlt
                have HL : Hid (∀ i, i < k → L i ≤ 1048576) := hL
                clear h1 hL
                have h1 : (k : Int) < (n1 : Int) := by omega
                by_cases gl : L k ≤ 1048576
                · go_wp2
                  · go_ret
                    exact zz_no
                  · go_round
                    case rel => exact ⟨k + 1, _, by omega, by go_num, rfl, fun i hi => by rcases (show i < k ∨ i = k from by omega) with e | rfl; exact HL.out i e; exact gl⟩
                    case measure => simp [intOf]; omega
                · go_wp2
                  go_ret
                  exact zz_no
              · obtain rfl : k = n1 := by omega
                have HL : Hid (∀ i, i < k → L i ≤ 1048576) := hL
                clear h1 hL
                go_wp2
                all_goals first
                  | (go_ret; exact zz_no)
                  | (go_ret; exact ⟨true, rfl, rfl, fun _ => HL.out⟩)
        · go_wp2
          go_ret
          exact zz_no
  · go_enter Try.func5, Try.ntmps5
    go_wp2
    go_ret
    exact zz_no

end Go.Proofs.Qxb6608660a

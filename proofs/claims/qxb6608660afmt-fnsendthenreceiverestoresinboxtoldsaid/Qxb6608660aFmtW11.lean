import Derived.Test.Qxb6608660aFmtW10
namespace Go.Proofs.Qxb6608660aFmt
open Go.RowKit
set_option linter.unusedSimpArgs false
set_option linter.unusedVariables false

/-- The elements of a slice of strings. -/
def StrsAt (w : World) (a : Option Addr) (n : Nat) (S : Nat → ByteArray) : Prop :=
  ∀ i, i < n → ∃ x o, a = some ⟨x, o, none⟩ ∧ w.cell? ⟨x, o + i, none⟩ = some (.string (S i)) ∧ (S i).size ≤ maxLen
theorem StrsAt.below {B : Nat} {w w' : World} {a : Option Addr} {n : Nat} {S : Nat → ByteArray} (h : StrsAt w a n S) (hb : Below B w w') (hB : w.heap.size ≤ B) : StrsAt w' a n S := by
  intro i hi
  obtain ⟨x, o, e, h1, h2⟩ := h i hi
  have := World.block_lt_of_cell? w _ h1
  exact ⟨x, o, e, (hb.cell (by simp at this ⊢; omega)).trans h1, h2⟩

/-- The elements of a slice of Out. -/
def OutsAt (w : World) (a : Option Addr) (n : Nat) (T : Nat → ByteArray) (Q : Nat → Int) : Prop :=
  ∀ i, i < n → ∃ x o, a = some ⟨x, o, none⟩ ∧ w.cell? ⟨x, o + i * 2, none⟩ = some (.string (T i)) ∧ w.cell? ⟨x, o + i * 2 + 1, none⟩ = some (.int .i64 (Q i)) ∧ (T i).size ≤ maxLen
theorem OutsAt.below {B : Nat} {w w' : World} {a : Option Addr} {n : Nat} {T : Nat → ByteArray} {Q : Nat → Int} (h : OutsAt w a n T Q) (hb : Below B w w') (hB : w.heap.size ≤ B) : OutsAt w' a n T Q := by
  intro i hi
  obtain ⟨x, o, e, h1, h2, h3⟩ := h i hi
  have := World.block_lt_of_cell? w _ h1
  simp at this
  exact ⟨x, o, e, (hb.cell (by simp; omega)).trans h1, (hb.cell (by simp; omega)).trans h2, h3⟩

/-- The elements of a slice of slices of numbers. -/
def RowsAt (w : World) (a : Option Addr) (n : Nat) (A : Nat → Option Addr) (L C : Nat → Nat) (Z : Nat → Nat → Int) : Prop :=
  ∀ i, i < n → ∃ x o, a = some ⟨x, o, none⟩ ∧ w.cell? ⟨x, o + i, none⟩ = some (.slice (A i) (L i) (C i)) ∧ IntsAt w (A i) (L i) (Z i) ∧ (A i = none → L i = 0)
theorem RowsAt.below {B : Nat} {w w' : World} {a : Option Addr} {n : Nat} {A : Nat → Option Addr} {L C : Nat → Nat} {Z : Nat → Nat → Int} (h : RowsAt w a n A L C Z) (hb : Below B w w') (hB : w.heap.size ≤ B) : RowsAt w' a n A L C Z := by
  intro i hi
  obtain ⟨x, o, e, h1, h2, h3⟩ := h i hi
  have := World.block_lt_of_cell? w _ h1
  exact ⟨x, o, e, (hb.cell (by simp at this ⊢; omega)).trans h1, h2.below hb hB, h3⟩

-- BYTES
set_option maxRecDepth 100000 in
set_option maxHeartbeats 400000 in
theorem namesBytes_any (a : Option Addr) (n c : Nat) (S : Nat → ByteArray) (r : Int) (w : World) (hn : n ≤ 1048576) (ha : StrsAt w a n S) :
    Calls Tryf.prog 6 #[.slice a n c, .int .i64 r] w fun e w' => (∃ r', e = .returned (.int .i64 r')) ∧ w' = w := by
  go_enter Tryf.func6, Tryf.ntmps6
  go_wp2
  go_loop [1, 5] (fun t i => ∃ (k : Nat) (r : Int), k ≤ n ∧ i = .int .i64 k ∧ t = .int .i64 r) (fun _ i => n - (intOf i).toNat)
  case atStart => exact ⟨0, r, Nat.zero_le _, rfl, rfl⟩
  case round =>
    obtain ⟨k, r, hk, rfl, rfl⟩ := hrel
    by_cases hlt : k < n
    · obtain ⟨x, o, rfl, hc0, _⟩ := ha k hlt
      clear ha
      have h1 : (k : Int) < (n : Int) := by omega
      by_cases hr : r ≤ 1048576
      · go_wp2
        go_round
        case rel => exact ⟨k + 1, _, by omega, by go_num, rfl⟩
        case measure => simp [intOf]; omega
      · go_wp2
        go_ret
        exact ⟨⟨_, rfl⟩, rfl⟩
    · clear ha
      go_wp2
      go_ret
      exact ⟨⟨_, rfl⟩, rfl⟩

set_option maxRecDepth 100000 in
set_option maxHeartbeats 400000 in
theorem rowsBytes_any (a : Option Addr) (n c : Nat) (A : Nat → Option Addr) (L C : Nat → Nat) (Z : Nat → Nat → Int) (r : Int) (w : World) (hn : n ≤ 1048576) (ha : RowsAt w a n A L C Z) :
    Calls Tryf.prog 9 #[.slice a n c, .int .i64 r] w fun e w' => (∃ r', e = .returned (.int .i64 r')) ∧ w' = w := by
  go_enter Tryf.func9, Tryf.ntmps9
  go_wp2
  go_loop [1, 5] (fun t i => ∃ (k : Nat) (r : Int), k ≤ n ∧ i = .int .i64 k ∧ t = .int .i64 r) (fun _ i => n - (intOf i).toNat)
  case atStart => exact ⟨0, r, Nat.zero_le _, rfl, rfl⟩
  case round =>
    obtain ⟨k, r, hk, rfl, rfl⟩ := hrel
    by_cases hlt : k < n
    · obtain ⟨x, o, rfl, hc0, _⟩ := ha k hlt
      clear ha
      have h1 : (k : Int) < (n : Int) := by omega
      by_cases hr : r ≤ 1048576
      · go_wp2
        go_round
        case rel => exact ⟨k + 1, _, by omega, by go_num, rfl⟩
        case measure => simp [intOf]; omega
      · go_wp2
        go_ret
        exact ⟨⟨_, rfl⟩, rfl⟩
    · clear ha
      go_wp2
      go_ret
      exact ⟨⟨_, rfl⟩, rfl⟩

set_option maxRecDepth 100000 in
set_option maxHeartbeats 400000 in
theorem outBytes_any (a : Option Addr) (n c : Nat) (T : Nat → ByteArray) (Q : Nat → Int) (r : Int) (w : World) (hn : n ≤ 1048576) (ha : OutsAt w a n T Q) :
    Calls Tryf.prog 23 #[.slice a n c, .int .i64 r] w fun e w' => (∃ r', e = .returned (.int .i64 r')) ∧ w' = w := by
  go_enter Tryf.func23, Tryf.ntmps23
  go_wp2
  go_loop [1, 5] (fun t i => ∃ (k : Nat) (r : Int), k ≤ n ∧ i = .int .i64 k ∧ t = .int .i64 r) (fun _ i => n - (intOf i).toNat)
  case atStart => exact ⟨0, r, Nat.zero_le _, rfl, rfl⟩
  case round =>
    obtain ⟨k, r, hk, rfl, rfl⟩ := hrel
    by_cases hlt : k < n
    · obtain ⟨x, o, rfl, hc0, hc1, _⟩ := ha k hlt
      clear ha
      have h1 : (k : Int) < (n : Int) := by omega
      by_cases hr : r ≤ 1048576
      · go_wp2
        go_round
        case rel => exact ⟨k + 1, _, by omega, by go_num, rfl⟩
        case measure => simp [intOf]; omega
      · go_wp2
        go_ret
        exact ⟨⟨_, rfl⟩, rfl⟩
    · clear ha
      go_wp2
      go_ret
      exact ⟨⟨_, rfl⟩, rfl⟩

def ZzPost (bd : Prop) (w : World) (e : Ending) (w' : World) : Prop := ∃ b, e = .returned (.bool b) ∧ w = w' ∧ (b = true → bd)
theorem zz_no {bd : Prop} {w : World} : ZzPost bd w (.returned (.bool false)) w := ⟨false, rfl, rfl, by simp⟩

set_option maxRecDepth 100000 in
set_option maxHeartbeats 4000000 in
theorem zzSS_any (aN : Option Addr) (nN cN : Nat) (S : Nat → ByteArray) (fr : Int) (aO : Option Addr) (nO cO : Nat) (T : Nat → ByteArray) (Q : Nat → Int) (tr : Bool) (aC : Option Addr) (nC cC : Nat) (AC : Nat → Option Addr) (LC CC : Nat → Nat) (ZC : Nat → Nat → Int) (aA : Option Addr) (nA cA : Nat) (ms : Int) (w : World) (bN : nN ≤ maxLen) (bO : nO ≤ maxLen) (bC : nC ≤ maxLen) (bA : nA ≤ maxLen) (hN : StrsAt w aN nN S) (hO : OutsAt w aO nO T Q) (hC : RowsAt w aC nC AC LC CC ZC) :
    Calls Tryf.prog 22 #[.slice aN nN cN, .int .i64 fr, .slice aO nO cO, .bool tr, .slice aC nC cC, .slice aA nA cA, .int .i64 ms] w (ZzPost (∀ j, j < nC → LC j ≤ 1048576) w) := by
  unfold maxLen at *
  by_cases g0 : nN ≤ 1048576
  · go_enter Tryf.func22, Tryf.ntmps22
    go_wp2
    go_loop [15, 16] (fun t i => ∃ (k : Nat) (r : Int), k ≤ nN ∧ i = .int .i64 k ∧ t = .int .i64 r) (fun _ i => nN - (intOf i).toNat)
    case atStart => exact ⟨0, _, Nat.zero_le _, rfl, rfl⟩
    case round =>
      obtain ⟨k, r, hk, rfl, rfl⟩ := hrel
      by_cases hlt : k < nN
      · obtain ⟨x, o, rfl, hc0, _⟩ := hN k hlt
        clear hC hN hO
        have h1 : (k : Int) < (nN : Int) := by omega
        go_wp2
        all_goals first
          | (go_round
             case rel => exact ⟨k + 1, _, by omega, by go_num, rfl⟩
             case measure => simp [intOf]; omega)
          | (go_ret; exact zz_no)
      · obtain rfl : nN = k := by omega
        clear hk hlt hN
        by_cases g1 : nO ≤ 1048576
        · go_wp2
          · go_ret
            exact zz_no
          · go_loop [15, 17] (fun t i => ∃ (k : Nat) (r : Int), k ≤ nO ∧ i = .int .i64 k ∧ t = .int .i64 r) (fun _ i => nO - (intOf i).toNat)
            case atStart => exact ⟨0, _, Nat.zero_le _, rfl, rfl⟩
            case round =>
              obtain ⟨k, r, hk, rfl, rfl⟩ := hrel
              by_cases hlt : k < nO
              · obtain ⟨x, o, rfl, hc0, hc1, _⟩ := hO k hlt
                clear hC hO
                have h1 : (k : Int) < (nO : Int) := by omega
                go_wp2
                all_goals first
                  | (go_round
                     case rel => exact ⟨k + 1, _, by omega, by go_num, rfl⟩
                     case measure => simp [intOf]; omega)
                  | (go_ret; exact zz_no)
              · obtain rfl : nO = k := by omega
                clear hk hlt hO
                by_cases g2 : nC ≤ 1048576
                · go_wp2
                  · go_ret
                    exact zz_no
                  · go_loop [15, 18] (fun t i => ∃ (k : Nat) (r : Int), k ≤ nC ∧ i = .int .i64 k ∧ t = .int .i64 r ∧ ∀ j, j < k → LC j ≤ 1048576) (fun _ i => nC - (intOf i).toNat)
                    case atStart => exact ⟨0, _, Nat.zero_le _, rfl, rfl, fun j hj => absurd hj (by omega)⟩
                    case round =>
                      obtain ⟨k, r, hk, rfl, rfl, hL⟩ := hrel
                      by_cases hlt : k < nC
                      · obtain ⟨x, o, rfl, hc0, _⟩ := hC k hlt
                        have HL : Hid (∀ j, j < k → LC j ≤ 1048576) := hL
                        clear hL
                        clear hC
                        have h1 : (k : Int) < (nC : Int) := by omega
                        by_cases gl : LC k ≤ 1048576
                        · go_wp2
                          · go_ret
                            exact zz_no
                          · go_round
                            case rel => exact ⟨k + 1, _, by omega, by go_num, rfl, fun j hj => by rcases (show j < k ∨ j = k from by omega) with e | rfl; exact HL.out j e; exact gl⟩
                            case measure => simp [intOf]; omega
                        · go_wp2
                          go_ret
                          exact zz_no
                      · obtain rfl : nC = k := by omega
                        have HL2 : Hid (∀ j, j < nC → LC j ≤ 1048576) := hL
                        clear hL
                        clear hk hlt hC
                        by_cases g3 : nA ≤ 1048576
                        · go_wp2
                          all_goals first
                            | (go_ret; exact zz_no)
                            | (go_ret; exact ⟨true, rfl, rfl, fun _ => HL2.out⟩)
                        · go_wp2
                          go_ret
                          exact zz_no
                · go_wp2
                  go_ret
                  exact zz_no
        · go_wp2
          go_ret
          exact zz_no
  · go_enter Tryf.func22, Tryf.ntmps22
    go_wp2
    go_ret
    exact zz_no

end Go.Proofs.Qxb6608660aFmt

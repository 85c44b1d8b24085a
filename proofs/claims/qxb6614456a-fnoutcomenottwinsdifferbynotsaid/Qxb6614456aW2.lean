/- My own work on the program: the tests ahead of the law. -/
import Derived.Test.Qxb6614456aW1
namespace Go.Proofs.Qxb6614456a
open Go.RowKit
set_option linter.unusedVariables false
set_option linter.unusedSimpArgs false

/-- What zzBytes tells where it answers true. -/
def ZzBd (n m : Nat) (L : Nat → Nat) : Prop := n ≤ 1048576 ∧ m ≤ 1048576 ∧ ∀ j, j < m → L j ≤ 1048576
/-- Its first half. -/
def DomAt (ms at' : Int) (n : Nat) : Prop := ms ≤ 4 ∧ (ms = 4 → 0 ≤ at' ∧ at' < n)
/-- What outcomeDomainFits tells where it answers true. -/
def DomBd (ms at' : Int) (n m : Nat) (I FI : Nat → Int) : Prop := ms ≤ 4 ∧ (ms = 4 → 0 ≤ at' ∧ at' < n) ∧ (∀ j, j < n → 0 ≤ I j ∧ I j < 49) ∧ ∀ j, j < m → 0 ≤ FI j ∧ FI j < 49

set_option maxRecDepth 100000 in
set_option maxHeartbeats 4000000 in
theorem zzBytes_any (ms at' : Int) (p q r0 : Bool) (a : Option Addr) (n c : Nat) (O K T : Nat → ByteArray) (I : Nat → Int) (b : Option Addr) (m d : Nat) (FI : Nat → Int) (FT : Nat → ByteArray) (A : Nat → Option Addr) (L C : Nat → Nat) (X : Nat → Nat → ByteArray) (w : World)
    (bn : n ≤ maxLen) (bm : m ≤ maxLen) (hc : CondsAt w a n O K T I) (hf : FactsAt w b m FI FT A L C X) :
    Calls Try.prog 17 #[.int .u8 ms, .int .i64 at', .bool p, .bool q, .bool r0, .slice a n c, .slice b m d] w (ZzPost (ZzBd n m L) w) := by
  unfold maxLen at *
  have HC : Hid (CondsAt w a n O K T I) := hc
  have HF : Hid (FactsAt w b m FI FT A L C X) := hf
  clear hc hf
  by_cases g0 : n ≤ 1048576
  · go_enter Try.func17, Try.ntmps17
    go_wp2
    go_loop [15, 16] (fun t i => ∃ (k : Nat) (r : Int), k ≤ n ∧ i = .int .i64 k ∧ t = .int .i64 r) (fun _ i => n - (intOf i).toNat)
    case atStart => exact ⟨0, _, Nat.zero_le _, rfl, rfl⟩
    case round =>
      obtain ⟨k, r, hk, rfl, rfl⟩ := hrel
      by_cases hlt : k < n
      · obtain ⟨x, o, rfl, h1, h2, h3, h4⟩ := HC.out k hlt
        go_wp2
        all_goals first
          | (go_round
             case rel => exact ⟨k + 1, _, by omega, by go_num, rfl⟩
             case measure => simp [intOf]; omega)
          | (go_ret; exact zz_no)
      · obtain rfl : n = k := by omega
        clear HC hk hlt
        by_cases g1 : m ≤ 1048576
        · go_wp2
          · go_ret
            exact zz_no
          · go_loop [15, 17, 18] (fun t i u => ∃ (k : Nat) (r : Int), k ≤ m ∧ i = .int .i64 k ∧ t = .int .i64 r ∧ ∀ j, j < k → L j ≤ 1048576) (fun _ i _ => m - (intOf i).toNat)
            case atStart => exact ⟨0, _, Nat.zero_le _, rfl, rfl, fun j hj => absurd hj (by omega)⟩
            case round =>
              obtain ⟨k, r, hk, rfl, rfl, hL⟩ := hrel
              have HL : Hid (∀ j, j < k → L j ≤ 1048576) := hL
              clear hL
              by_cases hlt : k < m
              · obtain ⟨x, o, rfl, h1, h2, h3, hS, hLm⟩ := HF.out k hlt
                have HS : Hid (StrsAt w (A k) (L k) (X k)) := hS
                clear hS
                unfold maxLen at hLm
                by_cases gl : L k ≤ 1048576
                · go_wp2
                  all_goals try (go_ret; exact zz_no)
                  go_loop [15, 18] (fun t i => ∃ (k : Nat) (r : Int), i = .int .i64 k ∧ t = .int .i64 r) (fun _ i => L k - (intOf i).toNat)
                  case atStart => exact ⟨0, _, rfl, rfl⟩
                  case round =>
                    obtain ⟨k2, r2, rfl, rfl⟩ := hrel
                    by_cases hlt2 : k2 < L k
                    · obtain ⟨x2, o2, e2, h5⟩ := HS.out k2 hlt2
                      rw [e2] at h3
                      go_wp2
                      all_goals first
                        | (go_round
                           case rel => exact ⟨k2 + 1, _, by go_num, rfl⟩
                           case measure => simp [intOf]; omega)
                        | (go_ret; exact zz_no)
                    · go_wp2
                      go_round
                      case rel => exact ⟨k + 1, _, by omega, by go_num, rfl, fun j hj => by rcases (show j < k ∨ j = k from by omega) with e | rfl; exact HL.out j e; exact gl⟩
                      case measure => simp [intOf]; omega
                · go_wp2
                  all_goals (go_ret; exact zz_no)
              · obtain rfl : m = k := by omega
                go_wp2
                go_ret
                exact ⟨true, rfl, rfl, fun _ => ⟨g0, g1, HL.out⟩⟩
        · go_wp2
          go_ret
          exact zz_no
  · go_enter Try.func17, Try.ntmps17
    go_wp2
    go_ret
    exact zz_no

set_option maxRecDepth 100000 in
set_option maxHeartbeats 4000000 in
theorem domainFits_any (ms at' : Int) (a : Option Addr) (n c : Nat) (O K T : Nat → ByteArray) (I : Nat → Int) (b : Option Addr) (m d : Nat) (FI : Nat → Int) (FT : Nat → ByteArray) (A : Nat → Option Addr) (L C : Nat → Nat) (X : Nat → Nat → ByteArray) (w : World)
    (bn : n ≤ 1048576) (bm : m ≤ 1048576) (hc : CondsAt w a n O K T I) (hf : FactsAt w b m FI FT A L C X) :
    Calls Try.prog 19 #[.int .u8 ms, .int .i64 at', .slice a n c, .slice b m d] w
      (ZzPost (DomBd ms at' n m I FI) w) := by
  have HC : Hid (CondsAt w a n O K T I) := hc
  have HF : Hid (FactsAt w b m FI FT A L C X) := hf
  clear hc hf
  by_cases g0 : 4 < ms
  · go_enter Try.func19, Try.ntmps19
    go_wp2
    go_ret
    exact zz_no
  by_cases g1 : ms = 4 ∧ (at' < 0 ∨ (n : Int) ≤ at')
  · obtain ⟨rfl, g2⟩ := g1
    by_cases g3 : at' < 0
    · clear g2
      go_enter Try.func19, Try.ntmps19
      go_wp2
      go_ret
      exact zz_no
    · have g4 : (n : Int) ≤ at' := by omega
      clear g2
      go_enter Try.func19, Try.ntmps19
      go_wp2
      go_ret
      exact zz_no
  have HA : Hid (DomAt ms at' n) := ⟨by omega, fun e => by omega⟩
  by_cases e4 : ms = 4
  · have p1 : decide (at' < 0) = false := decide_eq_false (by omega)
    have p2 : decide ((n : Int) ≤ at') = false := decide_eq_false (by omega)
    subst e4
    clear g1 g0
    go_enter Try.func19, Try.ntmps19
    go_wp2
    go_loop [9, 27] (fun u i => ∃ k : Nat, k ≤ n ∧ i = .int .i64 k ∧ ∀ j, j < k → 0 ≤ I j ∧ I j < 49) (fun _ i => n - (intOf i).toNat)
    case atStart => exact ⟨0, Nat.zero_le _, rfl, fun j hj => absurd hj (by omega)⟩
    case round =>
      obtain ⟨k, hk, rfl, hL⟩ := hrel
      have HL : Hid (∀ j, j < k → 0 ≤ I j ∧ I j < 49) := hL
      clear hL
      by_cases hlt : k < n
      · obtain ⟨x, o, rfl, h1, h2, h3, h4⟩ := HC.out k hlt
        by_cases i0 : I k < 0
        · go_wp2
          go_ret
          exact zz_no
        · by_cases i1 : 49 ≤ I k
          · go_wp2
            go_ret
            exact zz_no
          · go_wp2
            go_round
            case rel => exact ⟨k + 1, by omega, by go_num, fun j hj => by rcases (show j < k ∨ j = k from by omega) with e | rfl; exact HL.out j e; exact ⟨by omega, by omega⟩⟩
            case measure => simp [intOf]; omega
      · obtain rfl : n = k := by omega
        clear HC hk hlt
        go_wp2
        go_loop [10, 47] (fun u i => ∃ k : Nat, k ≤ m ∧ i = .int .i64 k ∧ ∀ j, j < k → 0 ≤ FI j ∧ FI j < 49) (fun _ i => m - (intOf i).toNat)
        case atStart => exact ⟨0, Nat.zero_le _, rfl, fun j hj => absurd hj (by omega)⟩
        case round =>
          obtain ⟨k, hk, rfl, hL⟩ := hrel
          have HM : Hid (∀ j, j < k → 0 ≤ FI j ∧ FI j < 49) := hL
          clear hL
          by_cases hlt : k < m
          · obtain ⟨x, o, rfl, h1, h2, h3, hS, hLm⟩ := HF.out k hlt
            clear hS
            by_cases i0 : FI k < 0
            · go_wp2
              go_ret
              exact zz_no
            · by_cases i1 : 49 ≤ FI k
              · go_wp2
                go_ret
                exact zz_no
              · go_wp2
                go_round
                case rel => exact ⟨k + 1, by omega, by go_num, fun j hj => by rcases (show j < k ∨ j = k from by omega) with e | rfl; exact HM.out j e; exact ⟨by omega, by omega⟩⟩
                case measure => simp [intOf]; omega
          · obtain rfl : m = k := by omega
            clear HF hk hlt
            go_wp2
            go_ret
            exact ⟨true, rfl, rfl, fun _ => ⟨HA.out.1, HA.out.2, HL.out, HM.out⟩⟩
  · have p1 : (ms == 4) = false := by simpa using e4
    clear g1
    go_enter Try.func19, Try.ntmps19
    go_wp2
    go_loop [9, 27] (fun u i => ∃ k : Nat, k ≤ n ∧ i = .int .i64 k ∧ ∀ j, j < k → 0 ≤ I j ∧ I j < 49) (fun _ i => n - (intOf i).toNat)
    case atStart => exact ⟨0, Nat.zero_le _, rfl, fun j hj => absurd hj (by omega)⟩
    case round =>
      obtain ⟨k, hk, rfl, hL⟩ := hrel
      have HL : Hid (∀ j, j < k → 0 ≤ I j ∧ I j < 49) := hL
      clear hL
      by_cases hlt : k < n
      · obtain ⟨x, o, rfl, h1, h2, h3, h4⟩ := HC.out k hlt
        by_cases i0 : I k < 0
        · go_wp2
          go_ret
          exact zz_no
        · by_cases i1 : 49 ≤ I k
          · go_wp2
            go_ret
            exact zz_no
          · go_wp2
            go_round
            case rel => exact ⟨k + 1, by omega, by go_num, fun j hj => by rcases (show j < k ∨ j = k from by omega) with e | rfl; exact HL.out j e; exact ⟨by omega, by omega⟩⟩
            case measure => simp [intOf]; omega
      · obtain rfl : n = k := by omega
        clear HC hk hlt
        go_wp2
        go_loop [10, 47] (fun u i => ∃ k : Nat, k ≤ m ∧ i = .int .i64 k ∧ ∀ j, j < k → 0 ≤ FI j ∧ FI j < 49) (fun _ i => m - (intOf i).toNat)
        case atStart => exact ⟨0, Nat.zero_le _, rfl, fun j hj => absurd hj (by omega)⟩
        case round =>
          obtain ⟨k, hk, rfl, hL⟩ := hrel
          have HM : Hid (∀ j, j < k → 0 ≤ FI j ∧ FI j < 49) := hL
          clear hL
          by_cases hlt : k < m
          · obtain ⟨x, o, rfl, h1, h2, h3, hS, hLm⟩ := HF.out k hlt
            clear hS
            by_cases i0 : FI k < 0
            · go_wp2
              go_ret
              exact zz_no
            · by_cases i1 : 49 ≤ FI k
              · go_wp2
                go_ret
                exact zz_no
              · go_wp2
                go_round
                case rel => exact ⟨k + 1, by omega, by go_num, fun j hj => by rcases (show j < k ∨ j = k from by omega) with e | rfl; exact HM.out j e; exact ⟨by omega, by omega⟩⟩
                case measure => simp [intOf]; omega
          · obtain rfl : m = k := by omega
            clear HF hk hlt
            go_wp2
            go_ret
            exact ⟨true, rfl, rfl, fun _ => ⟨HA.out.1, HA.out.2, HL.out, HM.out⟩⟩
end Go.Proofs.Qxb6614456a

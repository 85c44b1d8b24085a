/- My own work on the program: the bound on all lengths, law 3 (by tools/mk30.py). -/
import Derived.Test.Qxb6608660aFmtW11
namespace Go.Proofs.Qxb6608660aFmt
open Go.RowKit
set_option linter.unusedSimpArgs false
set_option linter.unusedVariables false

set_option maxRecDepth 100000 in
set_option maxHeartbeats 4000000 in
theorem zzSTR_any (aN : Option Addr) (nN cN : Nat) (S : Nat → ByteArray) (fr : Int) (to : ByteArray) (q : Int) (aP : Option Addr) (nP cP : Nat) (FP TP : Nat → ByteArray) (QP : Nat → Int) (aS : Option Addr) (nS cS : Nat) (AS : Nat → Option Addr) (LS CS : Nat → Nat) (ZS : Nat → Nat → Int) (MS : Nat → Int) (aB : Option Addr) (nB cB : Nat) (FB TB : Nat → ByteArray) (QB : Nat → Int) (tr : Bool) (aC : Option Addr) (nC cC : Nat) (AC : Nat → Option Addr) (LC CC : Nat → Nat) (ZC : Nat → Nat → Int) (aA : Option Addr) (nA cA : Nat) (ms : Int) (w : World) (bN : nN ≤ maxLen) (bT : to.size ≤ maxLen) (bP : nP ≤ maxLen) (bS : nS ≤ maxLen) (bB : nB ≤ maxLen) (bC : nC ≤ maxLen) (bA : nA ≤ maxLen) (hN : StrsAt w aN nN S) (hP : MsgsAt w aP nP FP TP QP) (hS : StampsAt w aS nS AS LS CS ZS MS) (hB : MsgsAt w aB nB FB TB QB) (hC : RowsAt w aC nC AC LC CC ZC) :
    Calls Tryf.prog 5 #[.slice aN nN cN, .int .i64 fr, .string to, .int .i64 q, .slice aP nP cP, .slice aS nS cS, .slice aB nB cB, .bool tr, .slice aC nC cC, .slice aA nA cA, .int .i64 ms] w (ZzPost ((∀ j, j < nS → LS j ≤ 1048576) ∧ ∀ j, j < nC → LC j ≤ 1048576) w) := by
  unfold maxLen at *
  by_cases g0 : nN ≤ 1048576
  · go_enter Tryf.func5, Tryf.ntmps5
    go_wp2
    go_loop [23, 24] (fun t i => ∃ (k : Nat) (r : Int), k ≤ nN ∧ i = .int .i64 k ∧ t = .int .i64 r) (fun _ i => nN - (intOf i).toNat)
    case atStart => exact ⟨0, _, Nat.zero_le _, rfl, rfl⟩
    case round =>
      obtain ⟨k, r, hk, rfl, rfl⟩ := hrel
      by_cases hlt : k < nN
      · obtain ⟨x, o, rfl, hc0, _⟩ := hN k hlt
        clear hB hC hN hP hS
        have h1 : (k : Int) < (nN : Int) := by omega
        go_wp2
        all_goals first
          | (go_round
             case rel => exact ⟨k + 1, _, by omega, by go_num, rfl⟩
             case measure => simp [intOf]; omega)
          | (go_ret; exact zz_no)
      · obtain rfl : nN = k := by omega
        clear hk hlt hN
        by_cases g1 : to.size ≤ 1048576
        · skip
          · skip
            by_cases g2 : nP ≤ 1048576
            · go_wp2
              · go_ret
                exact zz_no
              · go_ret
                exact zz_no
              · go_loop [23, 25] (fun t i => ∃ (k : Nat) (r : Int), k ≤ nP ∧ i = .int .i64 k ∧ t = .int .i64 r) (fun _ i => nP - (intOf i).toNat)
                case atStart => exact ⟨0, _, Nat.zero_le _, rfl, rfl⟩
                case round =>
                  obtain ⟨k, r, hk, rfl, rfl⟩ := hrel
                  by_cases hlt : k < nP
                  · obtain ⟨x, o, rfl, hc0, hc1, hc2⟩ := hP k hlt
                    clear hB hC hP hS
                    have h1 : (k : Int) < (nP : Int) := by omega
                    go_wp2
                    all_goals first
                      | (go_round
                         case rel => exact ⟨k + 1, _, by omega, by go_num, rfl⟩
                         case measure => simp [intOf]; omega)
                      | (go_ret; exact zz_no)
                  · obtain rfl : nP = k := by omega
                    clear hk hlt hP
                    by_cases g3 : nS ≤ 1048576
                    · go_wp2
                      · go_ret
                        exact zz_no
                      · go_loop [23, 26] (fun t i => ∃ (k : Nat) (r : Int), k ≤ nS ∧ i = .int .i64 k ∧ t = .int .i64 r ∧ ∀ j, j < k → LS j ≤ 1048576) (fun _ i => nS - (intOf i).toNat)
                        case atStart => exact ⟨0, _, Nat.zero_le _, rfl, rfl, fun j hj => absurd hj (by omega)⟩
                        case round =>
                          obtain ⟨k, r, hk, rfl, rfl, hL⟩ := hrel
                          by_cases hlt : k < nS
                          · obtain ⟨x, o, rfl, hc0, hc1, _⟩ := hS k hlt
                            have HL : Hid (∀ j, j < k → LS j ≤ 1048576) := hL
                            clear hL
                            clear hB hC hS
                            have h1 : (k : Int) < (nS : Int) := by omega
                            by_cases gl : LS k ≤ 1048576
                            · go_wp2
                              · go_ret
                                exact zz_no
                              · go_round
                                case rel => exact ⟨k + 1, _, by omega, by go_num, rfl, fun j hj => by rcases (show j < k ∨ j = k from by omega) with e | rfl; exact HL.out j e; exact gl⟩
                                case measure => simp [intOf]; omega
                            · go_wp2
                              go_ret
                              exact zz_no
                          · obtain rfl : nS = k := by omega
                            have HL3 : Hid (∀ j, j < nS → LS j ≤ 1048576) := hL
                            clear hL
                            clear hk hlt hS
                            by_cases g4 : nB ≤ 1048576
                            · go_wp2
                              · go_ret
                                exact zz_no
                              · go_loop [23, 27] (fun t i => ∃ (k : Nat) (r : Int), k ≤ nB ∧ i = .int .i64 k ∧ t = .int .i64 r) (fun _ i => nB - (intOf i).toNat)
                                case atStart => exact ⟨0, _, Nat.zero_le _, rfl, rfl⟩
                                case round =>
                                  obtain ⟨k, r, hk, rfl, rfl⟩ := hrel
                                  by_cases hlt : k < nB
                                  · obtain ⟨x, o, rfl, hc0, hc1, hc2⟩ := hB k hlt
                                    clear hB hC
                                    have h1 : (k : Int) < (nB : Int) := by omega
                                    go_wp2
                                    all_goals first
                                      | (go_round
                                         case rel => exact ⟨k + 1, _, by omega, by go_num, rfl⟩
                                         case measure => simp [intOf]; omega)
                                      | (go_ret; exact zz_no)
                                  · obtain rfl : nB = k := by omega
                                    clear hk hlt hB
                                    by_cases g5 : nC ≤ 1048576
                                    · go_wp2
                                      · go_ret
                                        exact zz_no
                                      · go_loop [23, 28] (fun t i => ∃ (k : Nat) (r : Int), k ≤ nC ∧ i = .int .i64 k ∧ t = .int .i64 r ∧ ∀ j, j < k → LC j ≤ 1048576) (fun _ i => nC - (intOf i).toNat)
                                        case atStart => exact ⟨0, _, Nat.zero_le _, rfl, rfl, fun j hj => absurd hj (by omega)⟩
                                        case round =>
                                          obtain ⟨k, r, hk, rfl, rfl, hL⟩ := hrel
                                          by_cases hlt : k < nC
                                          · obtain ⟨x, o, rfl, hc0, _⟩ := hC k hlt
                                            have HL : Hid (∀ j, j < k → LC j ≤ 1048576) := hL
                                            clear hL
                                            clear hC
                                            have h1 : (k : Int) < (nC : Int) := by omega
                                            by_cases gl : LC k ≤ 1048576
                                            · go_wp2
                                              · go_ret
                                                exact zz_no
                                              · go_round
                                                case rel => exact ⟨k + 1, _, by omega, by go_num, rfl, fun j hj => by rcases (show j < k ∨ j = k from by omega) with e | rfl; exact HL.out j e; exact gl⟩
                                                case measure => simp [intOf]; omega
                                            · go_wp2
                                              go_ret
                                              exact zz_no
                                          · obtain rfl : nC = k := by omega
                                            have HL5 : Hid (∀ j, j < nC → LC j ≤ 1048576) := hL
                                            clear hL
                                            clear hk hlt hC
                                            by_cases g6 : nA ≤ 1048576
                                            · go_wp2
                                              all_goals first
                                                | (go_ret; exact zz_no)
                                                | (go_ret; exact ⟨true, rfl, rfl, fun _ => ⟨HL3.out, HL5.out⟩⟩)
                                            · go_wp2
                                              go_ret
                                              exact zz_no
                                    · go_wp2
                                      go_ret
                                      exact zz_no
                            · go_wp2
                              go_ret
                              exact zz_no
                    · go_wp2
                      go_ret
                      exact zz_no
            · go_wp2
              all_goals
                go_ret
                exact zz_no
        · go_wp2
          go_ret
          exact zz_no
  · go_enter Tryf.func5, Tryf.ntmps5
    go_wp2
    go_ret
    exact zz_no

end Go.Proofs.Qxb6608660aFmt

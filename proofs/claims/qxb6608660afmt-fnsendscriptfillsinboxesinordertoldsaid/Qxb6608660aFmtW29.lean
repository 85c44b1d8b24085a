/- My own work on the program: the law of the script of sends, whatever the input. -/
import Derived.Test.Qxb6608660aFmtW26
import Derived.Test.Qxb6608660aFmtW27
import Derived.Test.Qxb6608660aFmtW28
namespace Go.Proofs.Qxb6608660aFmt
open Go.RowKit
set_option linter.unusedSimpArgs false
set_option linter.unusedVariables false

set_option maxRecDepth 100000 in
set_option maxHeartbeats 1000000 in
theorem law4_quit (aN : Option Addr) (N cN : Nat) (S : Nat → ByteArray) (fr : Int) (aO : Option Addr) (m cO : Nat) (T : Nat → ByteArray) (Q : Nat → Int) (tr : Bool) (aC : Option Addr) (K cC : Nat) (A : Nat → Option Addr) (L C : Nat → Nat) (Z : Nat → Nat → Int) (aA : Option Addr) (sl cA : Nat) (ms : Int) (W : World)
    (bN : N ≤ maxLen) (bO : m ≤ maxLen) (bC : K ≤ maxLen) (bA : sl ≤ maxLen) (hN : StrsAt W aN N S) (hO : OutsAt W aO m T Q) (hC : RowsAt W aC K A L C Z) (hq : ¬ (N ≤ 4096 ∧ m ≤ 4096 ∧ K ≤ 4096 ∧ sl ≤ 4096 ∧ 0 ≤ fr ∧ fr < N ∧ (tr = true → K = N))) :
    Calls Tryf.prog 4 #[.slice aN N cN, .int .i64 fr, .slice aO m cO, .bool tr, .slice aC K cC, .slice aA sl cA, .int .i64 ms] W (LawPost W) := by
  have HZ : Hid (Calls Tryf.prog 22 #[.slice aN N cN, .int .i64 fr, .slice aO m cO, .bool tr, .slice aC K cC, .slice aA sl cA, .int .i64 ms] W (ZzPost (∀ j, j < K → L j ≤ 1048576) W)) :=
    zzSS_any aN N cN S fr aO m cO T Q tr aC K cC A L C Z aA sl cA ms W bN bO bC bA hN hO hC
  have HN : Hid (StrsAt W aN N S) := hN
  have HO : Hid (OutsAt W aO m T Q) := hO
  have HC : Hid (RowsAt W aC K A L C Z) := hC
  have Hg : Hid (¬ (N ≤ 4096 ∧ m ≤ 4096 ∧ K ≤ 4096 ∧ sl ≤ 4096 ∧ 0 ≤ fr ∧ fr < N ∧ (tr = true → K = N))) := hq
  unfold maxLen at bN bO bC bA
  clear hN hO hC hq
  go_enter Tryf.func4, Tryf.ntmps4
  go_wp2_with fail
  refine HZ.out.mono ?_
  rintro e W ⟨b, rfl, rfl, hb⟩
  cases b
  · go_wp2_with fail
    go_ret
    exact ⟨rfl, Below.refl _ _⟩
  clear hb HZ
  by_cases q0 : N ≤ 4096
  case neg =>
    go_wp2_with fail
    go_ret
    exact ⟨rfl, Below.refl _ _⟩
  by_cases q1 : m ≤ 4096
  case neg =>
    go_wp2_with fail
    go_ret
    exact ⟨rfl, Below.refl _ _⟩
  by_cases q2 : K ≤ 4096
  case neg =>
    go_wp2_with fail
    go_ret
    exact ⟨rfl, Below.refl _ _⟩
  by_cases q3 : sl ≤ 4096
  case neg =>
    go_wp2_with fail
    go_ret
    exact ⟨rfl, Below.refl _ _⟩
  clear bN bO bC bA
  have v0 : decide ((4096 : Int) < (N : Int)) = false := by simp; omega
  have v1 : decide ((4096 : Int) < (m : Int)) = false := by simp; omega
  have v2 : decide ((4096 : Int) < (K : Int)) = false := by simp; omega
  have v3 : decide ((4096 : Int) < (sl : Int)) = false := by simp; omega
  go_wp2_with fail
  refine (namesBytes_any aN N cN S _ _ (by omega) HN.out).mono ?_
  rintro e W ⟨⟨r1, rfl⟩, rfl⟩
  go_wp2_with fail
  refine (outBytes_any aO m cO T Q _ _ (by omega) HO.out).mono ?_
  rintro e W ⟨⟨r2, rfl⟩, rfl⟩
  go_wp2_with fail
  refine (rowsBytes_any aC K cC A L C Z _ _ (by omega) HC.out).mono ?_
  rintro e W ⟨⟨r3, rfl⟩, rfl⟩
  by_cases g1 : r3 ≤ 1048576
  case neg =>
    go_wp2_with fail
    go_ret
    exact ⟨rfl, Below.refl _ _⟩
  by_cases f0 : fr < 0
  · go_wp2_with fail
    go_ret
    exact ⟨rfl, Below.refl _ _⟩
  have f0' : decide (fr < 0) = false := by simp; omega
  by_cases f1 : fr < (N : Int)
  case neg =>
    have f1' : decide ((N : Int) ≤ fr) = true := by simp; omega
    go_wp2_with fail
    go_ret
    exact ⟨rfl, Below.refl _ _⟩
  have f1' : decide ((N : Int) ≤ fr) = false := by simp; omega
  have hne : tr = true ∧ K ≠ N := by
    refine Classical.byContradiction fun h => Hg.out ⟨q0, q1, q2, q3, by omega, f1, fun e => ?_⟩
    exact Classical.byContradiction fun h2 => h ⟨e, h2⟩
  obtain ⟨rfl, hkn⟩ := hne
  have u0 : ((K : Int) != (N : Int)) = true := by rw [bne_iff_ne]; omega
  clear Hg
  go_wp2_with fail
  go_ret
  exact ⟨rfl, Below.refl _ _⟩

theorem law4_any (aN : Option Addr) (N cN : Nat) (S : Nat → ByteArray) (fr : Int) (aO : Option Addr) (m cO : Nat) (T : Nat → ByteArray) (Q : Nat → Int) (tr : Bool) (aC : Option Addr) (K cC : Nat) (A : Nat → Option Addr) (L C : Nat → Nat) (Z : Nat → Nat → Int) (aA : Option Addr) (sl cA : Nat) (SZ : Nat → Int) (ms : Int) (W : World)
    (bN : N ≤ maxLen) (bO : m ≤ maxLen) (bC : K ≤ maxLen) (bA : sl ≤ maxLen) (hN : StrsAt W aN N S) (hO : OutsAt W aO m T Q) (hC : RowsAt W aC K A L C Z) (hA : IntsAt W aA sl SZ) (zA : aA = none → sl = 0) :
    Calls Tryf.prog 4 #[.slice aN N cN, .int .i64 fr, .slice aO m cO, .bool tr, .slice aC K cC, .slice aA sl cA, .int .i64 ms] W (LawPost W) := by
  by_cases g : N ≤ 4096 ∧ m ≤ 4096 ∧ K ≤ 4096 ∧ sl ≤ 4096 ∧ 0 ≤ fr ∧ fr < N ∧ (tr = true → K = N)
  · obtain ⟨g0, g1, g2, g3, g4, g5, g6⟩ := g
    obtain ⟨f, rfl⟩ := Int.eq_ofNat_of_zero_le g4
    cases tr with
    | false => exact law4_plain aN N cN S f aO m cO T Q aC K cC A L C Z aA sl cA SZ ms W g0 g1 g2 g3 (by omega) hN hO hC hA zA
    | true =>
      obtain rfl : K = N := g6 rfl
      cases aA with
      | none => exact law4_nil aN K cN S f aO m cO T Q aC cC A L C Z sl cA SZ ms W g0 g1 g2 g3 (by omega) hN hO hC hA zA
      | some sA => exact law4_some aN K cN S f aO m cO T Q aC cC A L C Z sA sl cA SZ ms W g0 g1 g2 g3 (by omega) hN hO hC hA zA
  · exact law4_quit aN N cN S fr aO m cO T Q tr aC K cC A L C Z aA sl cA ms W bN bO bC bA hN hO hC g
end Go.Proofs.Qxb6608660aFmt

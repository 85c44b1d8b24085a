/- My own work on the program: the law of a Send and a receive, whatever the input. -/
import Derived.Test.Qxb6608660aFmtW33
import Derived.Test.Qxb6608660aFmtW34
import Derived.Test.Qxb6608660aFmtW36
namespace Go.Proofs.Qxb6608660aFmt
open Go.RowKit
set_option linter.unusedSimpArgs false
set_option linter.unusedVariables false

set_option maxRecDepth 100000 in
set_option maxHeartbeats 2000000 in
theorem law3_quit (aN : Option Addr) (N cN : Nat) (S : Nat → ByteArray) (fr : Int) (tN : ByteArray) (q : Int) (aP : Option Addr) (np cP : Nat) (FP TP : Nat → ByteArray) (QP : Nat → Int) (aS : Option Addr) (ns cS : Nat) (AS : Nat → Option Addr) (LS CS : Nat → Nat) (ZS : Nat → Nat → Int) (MS : Nat → Int) (aB : Option Addr) (nB cB : Nat) (FB TB : Nat → ByteArray) (QB : Nat → Int) (tr : Bool) (aC : Option Addr) (K cC : Nat) (A : Nat → Option Addr) (L C : Nat → Nat) (Z : Nat → Nat → Int) (aA : Option Addr) (sl cA : Nat) (ms : Int) (W : World)
    (bN : N ≤ maxLen) (bT : tN.size ≤ maxLen) (bP : np ≤ maxLen) (bS : ns ≤ maxLen) (bB : nB ≤ maxLen) (bC : K ≤ maxLen) (bA : sl ≤ maxLen) (hN : StrsAt W aN N S) (hP : MsgsAt W aP np FP TP QP) (hS : StampsAt W aS ns AS LS CS ZS MS) (hB : MsgsAt W aB nB FB TB QB) (hC : RowsAt W aC K A L C Z)
    (hq : ¬ (N ≤ 4096 ∧ np ≤ 4096 ∧ ns ≤ 4096 ∧ nB ≤ 4096 ∧ K ≤ 4096 ∧ sl ≤ 4096 ∧ tN.size ≤ 1048576 ∧ 0 ≤ fr ∧ fr < N ∧ (tr = true → K = N ∧ ns = np) ∧ (tr = false → ns = 0))) :
    Calls Tryf.prog 3 #[.slice aN N cN, .int .i64 fr, .string tN, .int .i64 q, .slice aP np cP, .slice aS ns cS, .slice aB nB cB, .bool tr, .slice aC K cC, .slice aA sl cA, .int .i64 ms] W (LawPost W) := by
  have HZ : Hid (Calls Tryf.prog 5 #[.slice aN N cN, .int .i64 fr, .string tN, .int .i64 q, .slice aP np cP, .slice aS ns cS, .slice aB nB cB, .bool tr, .slice aC K cC, .slice aA sl cA, .int .i64 ms] W (ZzPost ((∀ j, j < ns → LS j ≤ 1048576) ∧ ∀ j, j < K → L j ≤ 1048576) W)) :=
    zzSTR_any aN N cN S fr tN q aP np cP FP TP QP aS ns cS AS LS CS ZS MS aB nB cB FB TB QB tr aC K cC A L C Z aA sl cA ms W bN bT bP bS bB bC bA hN hP hS hB hC
  have HN : Hid (StrsAt W aN N S) := hN
  have HP : Hid (MsgsAt W aP np FP TP QP) := hP
  have HS : Hid (StampsAt W aS ns AS LS CS ZS MS) := hS
  have HBB : Hid (MsgsAt W aB nB FB TB QB) := hB
  have HC : Hid (RowsAt W aC K A L C Z) := hC
  have Hg : Hid (¬ (N ≤ 4096 ∧ np ≤ 4096 ∧ ns ≤ 4096 ∧ nB ≤ 4096 ∧ K ≤ 4096 ∧ sl ≤ 4096 ∧ tN.size ≤ 1048576 ∧ 0 ≤ fr ∧ fr < N ∧ (tr = true → K = N ∧ ns = np) ∧ (tr = false → ns = 0))) := hq
  unfold maxLen at bN bT bP bS bB bC bA
  clear hN hP hS hB hC hq
  go_enter Tryf.func3, Tryf.ntmps3
  go_wp2_with fail
  refine HZ.out.mono ?_
  rintro e W ⟨b, rfl, rfl, hb⟩
  cases b
  · go_wp2_with fail
    go_ret
    exact ⟨rfl, Below.refl _ _⟩
  clear hb HZ
  by_cases q0 : N ≤ 4096
  case neg =>
    go_wp2_with fail
    go_ret
    exact ⟨rfl, Below.refl _ _⟩
  have v0 : decide ((4096 : Int) < (N : Int)) = false := by simp; omega
  by_cases q1 : np ≤ 4096
  case neg =>
    go_wp2_with fail
    go_ret
    exact ⟨rfl, Below.refl _ _⟩
  have v1 : decide ((4096 : Int) < (np : Int)) = false := by simp; omega
  by_cases q2 : ns ≤ 4096
  case neg =>
    go_wp2_with fail
    go_ret
    exact ⟨rfl, Below.refl _ _⟩
  have v2 : decide ((4096 : Int) < (ns : Int)) = false := by simp; omega
  by_cases q3 : nB ≤ 4096
  case neg =>
    go_wp2_with fail
    go_ret
    exact ⟨rfl, Below.refl _ _⟩
  have v3 : decide ((4096 : Int) < (nB : Int)) = false := by simp; omega
  by_cases q4 : K ≤ 4096
  case neg =>
    go_wp2_with fail
    go_ret
    exact ⟨rfl, Below.refl _ _⟩
  have v4 : decide ((4096 : Int) < (K : Int)) = false := by simp; omega
  by_cases q5 : sl ≤ 4096
  case neg =>
    go_wp2_with fail
    go_ret
    exact ⟨rfl, Below.refl _ _⟩
  have v5 : decide ((4096 : Int) < (sl : Int)) = false := by simp; omega
  by_cases q6 : tN.size ≤ 1048576
  case neg =>
    go_wp2_with fail
    go_ret
    exact ⟨rfl, Below.refl _ _⟩
  have v6 : decide ((1048576 : Int) < (tN.size : Int)) = false := by simp; omega
  clear bN bT bP bS bB bC bA
  go_wp2_with fail
  refine (namesBytes_any aN N cN S _ _ (by omega) HN.out).mono ?_
  rintro e W ⟨⟨r1, rfl⟩, rfl⟩
  go_wp2_with fail
  refine (msgBytes_any aP np cP FP TP QP _ _ (by omega) HP.out).mono ?_
  rintro e w1 ⟨⟨r2, rfl⟩, j1, hw1⟩
  have HBa : Hid (Below W.heap.size W w1) := by rw [hw1]; exact below_drewN' _
  clear hw1
  go_wp2_with fail
  refine (stampBytes_any aS ns cS AS LS CS ZS MS _ _ (by omega) (HS.out.below HBa.out (Nat.le_refl _))).mono ?_
  rintro e w1 ⟨⟨r3, rfl⟩, rfl⟩
  go_wp2_with fail
  refine (msgBytes_any aB nB cB FB TB QB _ _ (by omega) (HBB.out.below HBa.out (Nat.le_refl _))).mono ?_
  rintro e V0 ⟨⟨r4, rfl⟩, j2, hw2⟩
  have HB : Hid (Below W.heap.size W V0) := HBa.out.trans (by rw [hw2]; exact below_drewN' _)
  clear hw2 HBa
  go_wp2_with fail
  refine (rowsBytes_any aC K cC A L C Z _ _ (by omega) (HC.out.below HB.out (Nat.le_refl _))).mono ?_
  rintro e V0 ⟨⟨r5, rfl⟩, rfl⟩
  by_cases g1 : r5 ≤ 1048576
  case neg =>
    go_wp2_with fail
    go_ret
    exact ⟨rfl, HB.out⟩
  by_cases f0 : fr < 0
  · go_wp2_with fail
    go_ret
    exact ⟨rfl, HB.out⟩
  have f0' : decide (fr < 0) = false := by simp; omega
  by_cases f1 : fr < (N : Int)
  case neg =>
    have f1' : decide ((N : Int) ≤ fr) = true := by simp; omega
    go_wp2_with fail
    go_ret
    exact ⟨rfl, HB.out⟩
  have f1' : decide ((N : Int) ≤ fr) = false := by simp; omega
  cases tr with
  | false =>
    have hns : ns ≠ 0 := fun e => Hg.out ⟨q0, q1, q2, q3, q4, q5, q6, by omega, f1, fun h => (by cases h), fun _ => e⟩
    have u0 : ((ns : Int) != 0) = true := by rw [bne_iff_ne]; omega
    clear Hg
    go_wp2_with fail
    go_ret
    exact ⟨rfl, HB.out⟩
  | true =>
    by_cases hk : K = N
    · have hns : ns ≠ np := fun e => Hg.out ⟨q0, q1, q2, q3, q4, q5, q6, by omega, f1, fun _ => ⟨hk, e⟩, fun h => by cases h⟩
      have u0 : ((K : Int) != (N : Int)) = false := by rw [hk]; simp
      have u1 : ((ns : Int) != (np : Int)) = true := by rw [bne_iff_ne]; omega
      clear Hg hk
      go_wp2_with fail
      go_ret
      exact ⟨rfl, HB.out⟩
    · have u0 : ((K : Int) != (N : Int)) = true := by rw [bne_iff_ne]; omega
      clear Hg
      go_wp2_with fail
      go_ret
      exact ⟨rfl, HB.out⟩

theorem law3_any (aN : Option Addr) (N cN : Nat) (S : Nat → ByteArray) (fr : Int) (tN : ByteArray) (q : Int) (aP : Option Addr) (np cP : Nat) (FP TP : Nat → ByteArray) (QP : Nat → Int) (aS : Option Addr) (ns cS : Nat) (AS : Nat → Option Addr) (LS CS : Nat → Nat) (ZS : Nat → Nat → Int) (MS : Nat → Int) (aB : Option Addr) (nB cB : Nat) (FB TB : Nat → ByteArray) (QB : Nat → Int) (tr : Bool) (aC : Option Addr) (K cC : Nat) (A : Nat → Option Addr) (L C : Nat → Nat) (Z : Nat → Nat → Int) (aA : Option Addr) (sl cA : Nat) (SZ : Nat → Int) (ms : Int) (W : World)
    (bN : N ≤ maxLen) (bT : tN.size ≤ maxLen) (bP : np ≤ maxLen) (bS : ns ≤ maxLen) (bB : nB ≤ maxLen) (bC : K ≤ maxLen) (bA : sl ≤ maxLen) (hN : StrsAt W aN N S) (hP : MsgsAt W aP np FP TP QP) (hS : StampsAt W aS ns AS LS CS ZS MS) (hB : MsgsAt W aB nB FB TB QB) (hC : RowsAt W aC K A L C Z) (hA : IntsAt W aA sl SZ)
    (zP : aP = none → np = 0) (zS : aS = none → ns = 0) (zB : aB = none → nB = 0) (zA : aA = none → sl = 0) :
    Calls Tryf.prog 3 #[.slice aN N cN, .int .i64 fr, .string tN, .int .i64 q, .slice aP np cP, .slice aS ns cS, .slice aB nB cB, .bool tr, .slice aC K cC, .slice aA sl cA, .int .i64 ms] W (LawPost W) := by
  by_cases g : N ≤ 4096 ∧ np ≤ 4096 ∧ ns ≤ 4096 ∧ nB ≤ 4096 ∧ K ≤ 4096 ∧ sl ≤ 4096 ∧ tN.size ≤ 1048576 ∧ 0 ≤ fr ∧ fr < N ∧ (tr = true → K = N ∧ ns = np) ∧ (tr = false → ns = 0)
  · obtain ⟨g0, g1, g2, g3, g4, g5, g6, g7, g8, g9, g10⟩ := g
    obtain ⟨f, rfl⟩ := Int.eq_ofNat_of_zero_le g7
    cases tr with
    | false =>
      obtain rfl : ns = 0 := g10 rfl
      exact law3_plain aN N cN S f tN q aP np cP FP TP QP aS cS AS LS CS ZS MS aB nB cB FB TB QB aC K cC A L C Z aA sl cA SZ ms W g0 g6 g1 g3 g4 g5 (by omega) hN hP hS hB hC hA zP zS zB zA
    | true =>
      obtain ⟨rfl, rfl⟩ := g9 rfl
      cases aA with
      | none => exact law3_nil aN K cN S f tN q aP ns cP FP TP QP aS cS AS LS CS ZS MS aB nB cB FB TB QB aC cC A L C Z sl cA SZ ms W g0 g6 g1 g3 g4 g5 (by omega) hN hP hS hB hC hA zP zS zB zA
      | some sA => exact law3_some aN K cN S f tN q aP ns cP FP TP QP aS cS AS LS CS ZS MS aB nB cB FB TB QB aC cC A L C Z sA sl cA SZ ms W g0 g6 g1 g3 g4 g5 (by omega) hN hP hS hB hC hA zP zS zB zA
  · exact law3_quit aN N cN S fr tN q aP np cP FP TP QP aS ns cS AS LS CS ZS MS aB nB cB FB TB QB tr aC K cC A L C Z aA sl cA ms W bN bT bP bS bB bC bA hN hP hS hB hC g
end Go.Proofs.Qxb6608660aFmt

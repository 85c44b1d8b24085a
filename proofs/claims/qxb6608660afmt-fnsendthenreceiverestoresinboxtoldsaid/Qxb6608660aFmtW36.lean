/- My own work on the program: the law of a Send and a receive, s (by tools/gen_l3.py). -/
import Derived.Test.Qxb6608660aFmtW32
import Derived.Deep.RegionHeld3
namespace Go.Proofs.Qxb6608660aFmt
open Go.RowKit
set_option linter.unusedSimpArgs false
set_option linter.unusedVariables false

set_option maxRecDepth 100000 in
set_option maxHeartbeats 8000000 in
theorem law3_some (aN : Option Addr) (N cN : Nat) (S : Nat → ByteArray) (fr : Nat) (tN : ByteArray) (q : Int) (aP : Option Addr) (np cP : Nat) (FP TP : Nat → ByteArray) (QP : Nat → Int) (aS : Option Addr) (cS : Nat) (AS : Nat → Option Addr) (LS CS : Nat → Nat) (ZS : Nat → Nat → Int) (MS : Nat → Int) (aB : Option Addr) (nB cB : Nat) (FB TB : Nat → ByteArray) (QB : Nat → Int) (aC : Option Addr) (cC : Nat) (A : Nat → Option Addr) (L C : Nat → Nat) (Z : Nat → Nat → Int) (sA : Addr) (sl cA : Nat) (SZ : Nat → Int) (ms : Int) (W : World)
    (bN : N ≤ 4096) (bT : tN.size ≤ 1048576) (bP : np ≤ 4096) (bB : nB ≤ 4096) (bC : N ≤ 4096) (bA : sl ≤ 4096) (hfr : fr < N) (hN : StrsAt W aN N S) (hP : MsgsAt W aP np FP TP QP) (hS : StampsAt W aS np AS LS CS ZS MS) (hB : MsgsAt W aB nB FB TB QB) (hC : RowsAt W aC N A L C Z) (hA : IntsAt W (some sA) sl SZ) (zP : aP = none → np = 0) (zS : aS = none → np = 0) (zB : aB = none → nB = 0) (zA : (some sA) = none → sl = 0) :
    Calls Tryf.prog 3 #[.slice aN N cN, .int .i64 fr, .string tN, .int .i64 q, .slice aP np cP, .slice aS np cS, .slice aB nB cB, .bool true, .slice aC N cC, .slice (some sA) sl cA, .int .i64 ms] W (LawPost W) := by
  have HZ : Hid (Calls Tryf.prog 5 #[.slice aN N cN, .int .i64 fr, .string tN, .int .i64 q, .slice aP np cP, .slice aS np cS, .slice aB nB cB, .bool true, .slice aC N cC, .slice (some sA) sl cA, .int .i64 ms] W (ZzPost ((∀ j, j < np → LS j ≤ 1048576) ∧ ∀ j, j < N → L j ≤ 1048576) W)) :=
    zzSTR_any aN N cN S fr tN q aP np cP FP TP QP aS np cS AS LS CS ZS MS aB nB cB FB TB QB true aC N cC A L C Z (some sA) sl cA ms W (by unfold maxLen; omega) (by unfold maxLen; omega) (by unfold maxLen; omega) (by unfold maxLen; omega) (by unfold maxLen; omega) (by unfold maxLen; omega) (by unfold maxLen; omega) hN hP hS hB hC
  have HN : Hid (StrsAt W aN N S) := hN
  have HP : Hid (MsgsAt W aP np FP TP QP ∧ (aP = none → np = 0)) := ⟨hP, zP⟩
  have HS : Hid (StampsAt W aS np AS LS CS ZS MS ∧ (aS = none → np = 0)) := ⟨hS, zS⟩
  have HBB : Hid (MsgsAt W aB nB FB TB QB ∧ (aB = none → nB = 0)) := ⟨hB, zB⟩
  have HC : Hid (RowsAt W aC N A L C Z) := hC
  have HA : Hid (IntsAt W (some sA) sl SZ ∧ ((some sA) = none → sl = 0)) := ⟨hA, zA⟩
  have v0 : decide ((4096 : Int) < (N : Int)) = false := by simp; omega
  have v1 : decide ((4096 : Int) < (np : Int)) = false := by simp; omega
  have v2 : decide ((4096 : Int) < (N : Int)) = false := by simp; omega
  have v3 : decide ((4096 : Int) < (sl : Int)) = false := by simp; omega
  have v4 : decide ((fr : Int) < 0) = false := by simp
  have v5 : decide ((N : Int) ≤ (fr : Int)) = false := by simp; omega
  have v6 : decide ((4096 : Int) < (nB : Int)) = false := by simp; omega
  have v7 : decide ((1048576 : Int) < (tN.size : Int)) = false := by simp; omega
  clear hN hP hS hB hC hA zP zS zB zA
  go_enter Tryf.func3, Tryf.ntmps3
  go_wp2_with fail
  refine HZ.out.mono ?_
  rintro e W ⟨b, rfl, rfl, hb⟩
  cases b
  · go_wp2_with fail
    go_ret
    exact ⟨rfl, Below.refl _ _⟩
  have HL : Hid ((∀ j, j < np → LS j ≤ 1048576) ∧ ∀ j, j < N → L j ≤ 1048576) := hb rfl
  clear hb HZ
  go_wp2_with fail
  refine (namesBytes_any aN N cN S _ _ (by omega) HN.out).mono ?_
  rintro e W ⟨⟨r1, rfl⟩, rfl⟩
  go_wp2_with fail
  refine (msgBytes_any aP np cP FP TP QP _ _ (by omega) HP.out.1).mono ?_
  rintro e w1 ⟨⟨r2, rfl⟩, j1, hw1⟩
  have HBa : Hid (Below W.heap.size W w1) := by rw [hw1]; exact below_drewN' _
  clear hw1
  go_wp2_with fail
  refine (stampBytes_any aS np cS AS LS CS ZS MS _ _ (by omega) (HS.out.1.below HBa.out (Nat.le_refl _))).mono ?_
  rintro e w1 ⟨⟨r3, rfl⟩, rfl⟩
  go_wp2_with fail
  refine (msgBytes_any aB nB cB FB TB QB _ _ (by omega) (HBB.out.1.below HBa.out (Nat.le_refl _))).mono ?_
  rintro e V0 ⟨⟨r4, rfl⟩, j2, hw2⟩
  have HB : Hid (Below W.heap.size W V0) := HBa.out.trans (by rw [hw2]; exact below_drewN' _)
  clear hw2 HBa
  go_wp2_with fail
  refine (rowsBytes_any aC N cC A L C Z _ _ (by omega) (HC.out.below HB.out (Nat.le_refl _))).mono ?_
  rintro e V0 ⟨⟨r5, rfl⟩, rfl⟩
  by_cases g1 : r5 ≤ 1048576
  case neg =>
    go_wp2_with fail
    go_ret
    exact ⟨rfl, HB.out⟩
  go_wp2_with fail
  clear g1
  -- THE ADDRESSEE
  go_loop [24, 25] (fun r i => ∃ k : Nat, k ≤ N ∧ i = .int .i64 k ∧ r = .int .i64 (lastI S k tN)) (fun _ i => N - (intOf i).toNat)
  case atStart => exact ⟨0, Nat.zero_le _, rfl, rfl⟩
  case round =>
    obtain ⟨k, hk, rfl, rfl⟩ := hrel
    by_cases hlt : k < N
    · obtain ⟨x, o, rfl, s0, hs0⟩ := HN.out.below HB.out (Nat.le_refl _) k hlt
      by_cases he : S k = tN
      · have e1 : ((S k).toList == tN.toList) = true := strEq_yes he
        have HI : Hid (lastI S (k + 1) tN = k) := lastI_yes he
        clear he
        go_wp2_with fail
        go_round
        case rel => exact ⟨k + 1, by omega, by go_num, by rw [HI.out]⟩
        case measure => simp [intOf]; omega
      · have e1 : ((S k).toList == tN.toList) = false := strEq_no he
        have HI : Hid (lastI S (k + 1) tN = lastI S k tN) := lastI_no he
        clear he
        go_wp2_with fail
        go_round
        case rel => exact ⟨k + 1, by omega, by go_num, by rw [HI.out]⟩
        case measure => simp [intOf]; omega
    obtain rfl : N = k := by omega
    clear hk hlt
    cases hto : lastN S N tN with
    | none =>
      have hI : lastI S N tN = -1 := by unfold lastI; rw [hto]
      rw [hI]
      clear hI hto
      go_wp2_with fail
      go_ret
      exact ⟨rfl, HB.out⟩
    | some rr =>
      have hI : lastI S N tN = rr := by unfold lastI; rw [hto]
      have hrr : rr < N := lastN_lt hto
      rw [hI]
      have HTO : Hid (lastN S N tN = some rr) := hto
      clear hI hto
      go_wp2_with fail
      -- THE SYSTEM
      refine (buildNodes_any aN N cN S rr aP np cP FP TP QP aS np cS AS LS CS ZS MS V0 bN (HN.out.below HB.out (Nat.le_refl _)) (by omega) HP.out.2 (HP.out.1.below HB.out (Nat.le_refl _)) (by omega) HS.out.2 HL.out.1 (HS.out.1.below HB.out (Nat.le_refl _))).mono ?_
      rintro e w1 ⟨tg, Bn, Bm, nb, val, cnt, cs, f, rfl, hnd, hpr⟩
      have HND : Hid (NodesIn V0 w1 tg Bn Bm N S N nb val cnt cs f) := hnd
      have HPR : Hid (Prior w1 tg rr N cnt cs np FP TP QP np LS ZS MS) := hpr
      have HBW1 : Hid (Below W.heap.size W w1) := HB.out.trans (hnd.bel.mono HB.out.size)
      clear hnd hpr
      obtain ⟨mm, hlen0⟩ := HND.out.map.len Tryf.underlying33
      by_cases hmn : mm = N
      case neg =>
        have u0 : ((mm : Int) != (N : Int)) = true := by rw [bne_iff_ne]; omega
        go_wp2_with fail
        go_ret
        exact ⟨rfl, HBW1.out⟩
      obtain rfl : N = mm := hmn.symm
      go_wp2_with fail
      refine (buildTracer_yes aC N cC A L C Z (some sA) sl cA SZ ms w1 (by omega) HL.out.2 (HC.out.below HBW1.out (Nat.le_refl _)) (by omega) (fun h => HA.out.2 (by first | exact h | trivial)) (HA.out.1.below HBW1.out (Nat.le_refl _))).mono ?_
      rintro e w2 ⟨Bt, Bc, A2, C2, sa2, sc2, rfl, hb2, k1, k2, k3, hrow2, hcl2, hsa2, hsz2⟩
      have HB2 : Hid (Below w1.heap.size w1 w2) := hb2
      have HBW2 : Hid (Below W.heap.size W w2) := HBW1.out.trans (HB2.out.mono HBW1.out.size)
      have HBT : Hid (w1.heap.size ≤ Bt ∧ Bt < w2.heap.size) := ⟨by omega, k3⟩
      have HTR : Hid (∀ (w4 : World) (tg : Nat → Nat × Nat), Below w2.heap.size w2 w4 → tg Bt = (3, 0) → (∀ b, w1.heap.size ≤ b → b < Bt → tg b = (4, 0)) → TrIn w4 tg Bt Bc N N fr sa2 sl sc2 0 ms sl SZ) := fun w4 tg hb gt g4 =>
        tr_start hb hrow2 k1 k2 (fun j hj => ⟨(hcl2 j hj).1, (hcl2 j hj).2.2, fun e => by obtain ⟨_, _, _, _, _, hz⟩ := HC.out j hj; exact hz ((hcl2 j hj).2.1.1 e)⟩) hsz2 hfr (by omega) (by omega) gt g4 (fun _ => ⟨rfl, rfl⟩) (fun e => by have := hsa2.1 e; cases this)
      clear hb2 k1 k2 k3 hrow2 hcl2 hsa2 hsz2
      go_wp2_with fail
      refine (toMessages_all aB nB cB FB TB QB w2 (by omega) HBB.out.2 (HBB.out.1.below HBW2.out (Nat.le_refl _))).mono ?_
      rintro e w3 hpost
      obtain ⟨b3, rfl, hb3, hi3⟩ := hpost.own (by unfold maxLen; omega)
      have HB3 : Hid (Below w2.heap.size w2 w3) := hb3
      have HI3 : Hid (w3.ownsRow w2.heap.size 57 3 (.slice b3 nB nB) nB (mList nB FB TB QB)) := hi3
      clear hpost hb3 hi3
      have HB13 : Hid (Below w1.heap.size w1 w3) := HB2.out.trans (HB3.out.mono HB2.out.size)
      have hnf : w3.cell? ⟨Bn, fr, none⟩ = some (.pointer (some ⟨nb fr, 0, none⟩)) := cell_below HB13.out ((HND.out.row.cell hfr).trans (congrArg some (HND.out.ptrs fr hfr)))
      have hnf1 := farA (O := .cells (sysCells (.slice (some ⟨Bn, 0, none⟩) N N) (.map (some Bm)) (.pointer (some ⟨Bt, 0, none⟩)) (.slice b3 nB nB)) 93) hnf
      go_wp2_with fail
      refine (newSystem_any _ _ _ _ _ _ _ _ _).mono ?_
      rintro e w4 ⟨rfl, rfl⟩
      go_wp2_with fail
      refine (newContext_any _ _ _).mono ?_
      rintro e w4 ⟨rfl, rfl⟩
      obtain ⟨V1, hV1⟩ : ∃ V1, V1 = ((w3.alloc (.cells (sysCells (.slice (some ⟨Bn, 0, none⟩) N N) (.map (some Bm)) (.pointer (some ⟨Bt, 0, none⟩)) (.slice b3 nB nB)) 93)).alloc (.cells #[.pointer (some ⟨w3.heap.size, 0, none⟩), .pointer (some ⟨nb fr, 0, none⟩)] 81)) := ⟨_, rfl⟩
      obtain ⟨Bsys, hBs⟩ : ∃ Bsys, Bsys = w3.heap.size := ⟨_, rfl⟩
      obtain ⟨Bx, hBx⟩ : ∃ Bx, Bx = w3.heap.size + 1 := ⟨_, rfl⟩
      have HCALL : Hid (Calls Tryf.prog 15 #[.pointer (some ⟨Bx, 0, none⟩), .string tN, .int .i64 q] V1 (PrePost V0.heap.size V0 N Bx Bsys Bm Bn fr rr (.slice (some ⟨Bn, 0, none⟩) N N) nb S true (some ⟨Bt, 0, none⟩) tN q np FP TP QP LS ZS MS nB FB TB QB sl SZ (wrap64 (ms + 1)) f)) := by
        obtain ⟨tg', t1, t2, t3, hsys⟩ := sys_start HND.out HB13.out (sv := .slice b3 nB nB) (n0 := nB) (x0 := mList nB FB TB QB) (own_mono HI3.out HB2.out.size) hfr (Bt := Bt) HBT.out.1 (by have := HBT.out.2; have := HB3.out.size; omega) (by have := HBT.out.2; have := HB3.out.size; omega) (fun e => by have := (HI3.out.lt _ e).1; have := HBT.out.2; omega) (some ⟨Bt, 0, none⟩)
        rw [← hV1, ← hBx, ← hBs] at hsys
        have h31 : Below w3.heap.size w3 V1 := by rw [hV1]; exact ((Below.refl _ _).alloc (Nat.le_refl _) _).alloc (by simp) _
        have h11 : Below w1.heap.size w1 V1 := HB13.out.trans (h31.mono HB13.out.size)
        have hrow : V1.rowIs Bn 44 N f := HND.out.row.of_block (h11.block _ HND.out.row.lt)
        have hgb : (tg' Bn).1 = 4 := by rw [t1 _ HND.out.row.lt, HND.out.gb]
        have hpr : Prior V1 tg' rr N cnt cs np FP TP QP np LS ZS MS := HPR.out.link (fun a n Z hc => hc.link (Link.later h11 t1).three)
        exact send3_traced hsys (HTR.out V1 tg' (HB3.out.trans (h31.mono HB3.out.size)) t2 (fun b h1 h2 => t3 b h1 (by have := HBT.out.2; have := HB3.out.size; omega) (by omega) (fun e => by have := (HI3.out.lt _ e).1; have := HBT.out.2; omega))) HTO.out (by unfold maxLen; omega) bP bB hrow HND.out.ptrs hgb hpr
      go_wp2_with fail
      rw [← hV1]
      try rw [← hBx]
      try rw [← hBs]
      refine HCALL.out.mono ?_
      rintro e V2 ⟨rfl, tg2, val2, cnt2, cs2, hpre⟩
      have HBV2 : Hid (Below W.heap.size W V2) := HB.out.trans (hpre.sys.bel.mono HB.out.size)
      have HRECV : Hid (Calls Tryf.prog 18 #[.pointer (some ⟨nb rr, 0, none⟩), .int .i64 np] V2 (RecvPost V2 N Bn Bsys fr rr nb S true tN q np FP TP QP LS ZS MS nB FB TB QB sl SZ (wrap64 (ms + 1)) V0.heap.size V0)) := recv_any hpre bP (by omega)
      obtain ⟨n0, ⟨ia, ic, i0⟩, sb, sc0, s0'⟩ := hpre.reads
      have s0 : V2.cell? ⟨nb rr, 4, none⟩ = some (.slice sb (np + 1) sc0) := s0'
      have hrn : (rr : Int) < (N : Int) := by omega
      clear hpre s0' hV1 hBs hBx hnf hnf1 HND HPR HBW1 HB2 HBT HCALL HB3 HI3 HB13 hlen0 hmn HTR
      go_wp2_with (first | (go_at_call 16; refine (nodeInbox_any (nb rr) _ _ i0).mono ?_; rintro e V2 ⟨rfl, rfl⟩) | (go_at_call 17; refine (nodeStamps_any (nb rr) _ _ s0).mono ?_; rintro e V2 ⟨rfl, rfl⟩))
      clear i0 s0 n0
      refine HRECV.out.mono ?_
      rintro e w5 ⟨mb, mo, ra, rl, rc, nu, rfl, d0', d1', d2', htt, hff, hfin, hbel⟩
      obtain ⟨hrl, hnu, hri⟩ := htt rfl
      obtain rfl : sl = rl := hrl.symm
      obtain rfl : (wrap64 (ms + 1)) = nu := hnu.symm
      clear htt hff
      have HF5 : Hid (Fin3 w5 N Bn Bsys fr rr nb S true tN q np FP TP QP LS ZS MS nB FB TB QB) := hfin
      have HBW5 : Hid (Below W.heap.size W w5) := HB.out.trans (hbel.mono HB.out.size)
      clear HRECV hfin hbel HBV2
      obtain ⟨V3, hV3⟩ : ∃ V3, w5.alloc (.cells #[.slice ra sl rc, .int .i64 (wrap64 (ms + 1))] 52) = V3 := ⟨_, rfl⟩
      have HV3 : Hid (w5.alloc (.cells #[.slice ra sl rc, .int .i64 (wrap64 (ms + 1))] 52) = V3) := hV3
      have hb53 : Below w5.heap.size w5 V3 := by rw [← hV3]; exact (Below.refl _ _).alloc (Nat.le_refl _) _
      have d0 : V3.cell? ⟨mb, mo, none⟩ = some (.string (S fr)) := cell_below hb53 d0'
      have d1 : V3.cell? ⟨mb, mo + 1, none⟩ = some (.string tN) := cell_below hb53 d1'
      have d2 : V3.cell? ⟨mb, mo + 2, none⟩ = some (.iface 3 (.int .i64 q)) := cell_below hb53 d2'
      have r0 : V3.cell? ⟨w5.heap.size, 0, none⟩ = some (.slice ra sl rc) := by rw [← hV3]; exact (cell_new2 rfl).1
      have r1 : V3.cell? ⟨w5.heap.size, 1, none⟩ = some (.int .i64 (wrap64 (ms + 1))) := by rw [← hV3]; exact (cell_new2 rfl).2
      have HF3 : Hid (Fin3 V3 N Bn Bsys fr rr nb S true tN q np FP TP QP LS ZS MS nB FB TB QB) := HF5.out.below hb53
      have HBW3 : Hid (Below W.heap.size W V3) := HBW5.out.trans (hb53.mono HBW5.out.size)
      have HRI : Hid (IntsAt V3 ra sl SZ) := hri.below hb53 (Nat.le_refl _)
      clear hri
      obtain ⟨xn, on, rfl, s0, -⟩ := HN.out.below HBW3.out (Nat.le_refl _) fr hfr
      clear d0' d1' d2' hb53 HF5 HBW5 hV3
      go_wp2_with fail
      rw [HV3.out]
      clear HV3
      go_region_held3 (fun w' => w'.cell? ⟨mb, mo, none⟩ = some (.string (S fr)) ∧ w'.cell? ⟨mb, mo + 1, none⟩ = some (.string tN) ∧ w'.cell? ⟨mb, mo + 2, none⟩ = some (.iface 3 (.int .i64 q)) ∧ w'.cell? ⟨xn, on + fr, none⟩ = some (.string (S fr)))
        (go_keep)
        (first | (go_at_call 19; refine (msgIs_any (S fr) tN q _).mono ?_; rintro e V4 ⟨rfl, hb4⟩; (have E0 := later hb4 d0); (have E1 := later hb4 d1); (have E2 := later hb4 d2); (have E3 := later hb4 s0); (have R0 := later hb4 r0); (have R1 := later hb4 r1); (have HB4 : Hid (Below V3.heap.size V3 V4) := ⟨hb4.os, hb4.tape, hb4.output, hb4.size, hb4.block⟩)))
      have HF4 : Hid (Fin3 V4 N Bn Bsys fr rr nb S true tN q np FP TP QP LS ZS MS nB FB TB QB) := HF3.out.below HB4.out
      have HBW4 : Hid (Below W.heap.size W V4) := HBW3.out.trans (HB4.out.mono HBW3.out.size)
      have HCS : Hid (Calls Tryf.prog 20 #[.agg #[.slice ra sl rc, .int .i64 (wrap64 (ms + 1))], .slice (some sA) sl cA, .int .i64 (wrap64 (ms + 1))] V4 fun e w' => e = .returned (.bool true) ∧ Below V4.heap.size V4 w') := stampIs_any ra (some sA) sl rc cA (wrap64 (ms + 1)) SZ V4 (by omega) (HRI.out.below HB4.out (Nat.le_refl _)) (HA.out.1.below HBW4.out (Nat.le_refl _))
      have heq := fun wx => Lib.run_eql_slice_nil (P := Tryf.prog) wx 26 3 (some sA) sl cA 0 0 Tryf.underlying26
      clear hb4 E0 E1 E2 E3 d0 d1 d2 s0 r0 r1 HF3
      -- THE STAMP
      go_upto_region 50 with (go_at_call 20; refine HCS.out.mono ?_; rintro e V5 ⟨rfl, hb5⟩; (have HF5 : Hid (Fin3 V5 N Bn Bsys fr rr nb S true tN q np FP TP QP LS ZS MS nB FB TB QB) := HF4.out.below hb5); (have HBW5 : Hid (Below W.heap.size W V5) := HBW4.out.trans (hb5.mono HBW4.out.size)); clear hb5)
      clear HCS HF4 HBW4 HB4 HBW3 R0 R1 heq HRI
      obtain ⟨ao, ac, i0, hmsg⟩ := HF5.out.inb
      obtain ⟨so, sc0, s0', hstm⟩ := HF5.out.stm
      have s0 : V5.cell? ⟨nb rr, 4, none⟩ = some (.slice so np sc0) := s0'
      have HMS : Hid (∀ i, i < np → ∃ g, ao = some ⟨g, 0, none⟩ ∧ MsgIn V5 g i (FP i) (TP i) (QP i)) := hmsg
      have HSM : Hid (∀ i, i < np → ∃ g A C, so = some ⟨g, 0, none⟩ ∧ V5.cell? ⟨g, i * 2, none⟩ = some (.slice A (LS i) C) ∧ V5.cell? ⟨g, i * 2 + 1, none⟩ = some (.int .i64 (MS i)) ∧ IntsAt V5 A (LS i) (ZS i)) := hstm rfl
      clear hmsg hstm s0'
      go_wp2_with (first | (go_at_call 16; refine (nodeInbox_any (nb rr) _ _ i0).mono ?_; rintro e V5 ⟨rfl, rfl⟩) | (go_at_call 17; refine (nodeStamps_any (nb rr) _ _ s0).mono ?_; rintro e V5 ⟨rfl, rfl⟩))
      clear i0 s0
      -- THE REST
      go_loopw [36] (fun i wr => ∃ k : Nat, k ≤ np ∧ i = .int .i64 k ∧ Below V5.heap.size V5 wr) (fun i _ => np - (intOf i).toNat)
      case atStart => exact ⟨0, Nat.zero_le _, rfl, Below.refl _ _⟩
      case round =>
        obtain ⟨k, hk, rfl, hbel⟩ := hrel
        have HBL : Hid (Below V5.heap.size V5 wr) := hbel
        have HBWR : Hid (Below W.heap.size W wr) := HBW5.out.trans (hbel.mono HBW5.out.size)
        by_cases hlt : k < np
        · obtain ⟨g, rfl, hmi⟩ := HMS.out k hlt
          obtain ⟨q0, q1, q2⟩ := hmi.below hbel
          obtain ⟨x, o, rfl, t0, t1, t2⟩ := HP.out.1.below HBWR.out (Nat.le_refl _) k hlt
          obtain ⟨gs, sA2, sC2, rfl, k0', k1', hib'⟩ := HSM.out k hlt
          have k0 := cell_below hbel k0'
          have k1 := cell_below hbel k1'
          have HIB : Hid (IntsAt wr sA2 (LS k) (ZS k)) := hib'.below hbel (Nat.le_refl _)
          obtain ⟨xs, os, rfl, l0, l1, hia, -⟩ := HS.out.1.below HBWR.out (Nat.le_refl _) k hlt
          have HIA : Hid (IntsAt wr (AS k) (LS k) (ZS k)) := hia
          have hlk := HL.out.1 k hlt
          clear k0' k1' hib' hia
          clear hbel hmi
          go_wp2_with fail
          go_region_held3 (fun w' => w'.cell? ⟨g, k * 3, none⟩ = some (.string (FP k)) ∧ w'.cell? ⟨g, k * 3 + 1, none⟩ = some (.string (TP k)) ∧ w'.cell? ⟨g, k * 3 + 2, none⟩ = some (.iface 3 (.int .i64 (QP k))) ∧ w'.cell? ⟨x, o + k * 3, none⟩ = some (.string (FP k)) ∧ w'.cell? ⟨x, o + k * 3 + 1, none⟩ = some (.string (TP k)) ∧ w'.cell? ⟨x, o + k * 3 + 2, none⟩ = some (.int .i64 (QP k)))
            (go_keep)
            (first | (go_at_call 19; refine (msgIs_any (FP k) (TP k) (QP k) _).mono ?_; rintro e w3 ⟨rfl, hb3⟩; (have E1 := later hb3 q0); (have E2 := later hb3 q1); (have E3 := later hb3 q2); (have E4 := later hb3 t0); (have E5 := later hb3 t1); (have E6 := later hb3 t2); (have HB5 : Hid (Below wr.heap.size wr w3) := ⟨hb3.os, hb3.tape, hb3.output, hb3.size, hb3.block⟩)))
          have K0 := later hb3 k0
          have K1 := later hb3 k1
          have L0 := later hb3 l0
          have L1 := later hb3 l1
          have HIB3 : Hid (IntsAt w3.drew sA2 (LS k) (ZS k)) := HIB.out.below (HB5.out.drew) (Nat.le_refl _)
          have HIA3 : Hid (IntsAt w3.drew (AS k) (LS k) (ZS k)) := HIA.out.below (HB5.out.drew) (Nat.le_refl _)
          clear k0 k1 l0 l1
          clear hb3 E1 E2 E3 E4 E5 E6 q0 q1 q2 t0 t1 t2
          go_wp2_with fail
          go_region_held3 (fun w' => w'.cell? ⟨gs, k * 2, none⟩ = some (.slice sA2 (LS k) sC2) ∧ w'.cell? ⟨gs, k * 2 + 1, none⟩ = some (.int .i64 (MS k)) ∧ w'.cell? ⟨xs, os + k * 2, none⟩ = some (.slice (AS k) (LS k) (CS k)) ∧ w'.cell? ⟨xs, os + k * 2 + 1, none⟩ = some (.int .i64 (MS k)))
            (go_keep)
            (first | (go_at_call 20; refine (stampIs_any sA2 (AS k) (LS k) sC2 (CS k) (MS k) (ZS k) _ hlk HIB3.out HIA3.out).mono ?_; rintro e w4 ⟨rfl, hb4⟩; (have E0 := later hb4 K0); (have E1 := later hb4 K1); (have E2 := later hb4 L0); (have E3 := later hb4 L1); (have HB6 : Hid (Below w3.heap.size w3 w4) := ⟨hb4.os, hb4.tape, hb4.output, hb4.size, hb4.block⟩)))
          clear hb4 E0 E1 E2 E3 K0 K1 L0 L1
          go_wp2_with fail
          go_roundw
          case rel => exact ⟨k + 1, by omega, by go_num, HBL.out.trans ((HB5.out.trans (HB6.out.mono HB5.out.size)).mono HBL.out.size)⟩
          case measure => simp [intOf]; omega
        obtain rfl : np = k := by omega
        clear hk hlt
        obtain ⟨V6, hV6⟩ : ∃ V6, V6 = wr := ⟨_, rfl⟩
        subst hV6
        have HF6 : Hid (Fin3 V6 N Bn Bsys fr rr nb S true tN q np FP TP QP LS ZS MS nB FB TB QB) := HF5.out.below hbel
        clear hbel HF5 HMS HBL HSM
        go_wp2_with fail
        -- THE OTHERS
        go_loopw [37] (fun i wr => ∃ k : Nat, k ≤ N ∧ i = .int .i64 k ∧ Below V6.heap.size V6 wr) (fun i _ => N - (intOf i).toNat)
        case atStart => exact ⟨0, Nat.zero_le _, rfl, Below.refl _ _⟩
        case round =>
          obtain ⟨k, hk, rfl, hbel⟩ := hrel
          have HBL : Hid (Below V6.heap.size V6 wr) := hbel
          by_cases hlt : k < N
          · have n0 : wr.cell? ⟨Bn, k, none⟩ = some (.pointer (some ⟨nb k, 0, none⟩)) := cell_below hbel (HF6.out.nrow k hlt)
            by_cases hkr : k = rr
            · have u0 : ((k : Int) != (rr : Int)) = false := by subst hkr; simp
              clear hkr hbel
              go_wp2_with fail
              go_roundw
              case rel => exact ⟨k + 1, by omega, by go_num, HBL.out⟩
              case measure => simp [intOf]; omega
            · have u0 : ((k : Int) != (rr : Int)) = true := by rw [bne_iff_ne]; omega
              obtain ⟨⟨ia, ic, i0'⟩, sb, sc0, s0'⟩ := HF6.out.oth k hlt hkr
              have i0 := cell_below hbel i0'
              have s0 := cell_below hbel s0'
              clear hkr hbel i0' s0'
              go_wp2_with (first | (go_at_call 16; refine (nodeInbox_any (nb k) _ _ i0).mono ?_; rintro e wr ⟨rfl, rfl⟩) | (go_at_call 17; refine (nodeStamps_any (nb k) _ _ s0).mono ?_; rintro e wr ⟨rfl, rfl⟩))
              go_roundw
              case rel => exact ⟨k + 1, by omega, by go_num, HBL.out⟩
              case measure => simp [intOf]; omega
          obtain rfl : N = k := by omega
          clear hk hlt
          obtain ⟨V7, hV7⟩ : ∃ V7, V7 = wr := ⟨_, rfl⟩
          subst hV7
          obtain ⟨g, gc, y9', hall', hlast'⟩ := HF6.out.out
          obtain ⟨nB1, hB1⟩ : ∃ nB1, nB1 = nB + 1 := ⟨_, rfl⟩
          rw [← hB1] at y9'
          have u1 : ((nB1 : Int) != (nB : Int) + 1) = false := by rw [hB1]; simp
          have hk3 : (nB : Int) < (nB1 : Int) := by omega
          have hk5 : nB1 ≤ 1048576 := by omega
          clear hB1
          have y9 := cell_below hbel y9'
          have HAL : Hid ((∀ i, i < nB → MsgIn V7 g i (FB i) (TB i) (QB i)) ∧ MsgIn V7 g nB (S fr) tN q) := ⟨fun i hi => (hall' i hi).below hbel, hlast'.below hbel⟩
          have HBW7 : Hid (Below W.heap.size W V7) := HBWR.out.trans (hbel.mono HBWR.out.size)
          clear hbel y9' hall' hlast' HF6 HBL
          go_wp2_with (go_at_call 21; refine (sysSent_any Bsys _ _ y9).mono ?_; rintro e V7 ⟨rfl, rfl⟩)
          -- THE SENT LIST
          go_loopw [39] (fun i wr => ∃ k : Nat, k ≤ nB ∧ i = .int .i64 k ∧ Below V7.heap.size V7 wr) (fun i _ => nB - (intOf i).toNat)
          case atStart => exact ⟨0, Nat.zero_le _, rfl, Below.refl _ _⟩
          case round =>
            obtain ⟨k, hk, rfl, hbel⟩ := hrel
            have HBL : Hid (Below V7.heap.size V7 wr) := hbel
            have HBR : Hid (Below W.heap.size W wr) := HBW7.out.trans (hbel.mono HBW7.out.size)
            by_cases hlt : k < nB
            · obtain ⟨q0, q1, q2⟩ := (HAL.out.1 k hlt).below hbel
              obtain ⟨x, o, rfl, t0, t1, t2⟩ := HBB.out.1.below HBR.out (Nat.le_refl _) k hlt
              clear hbel y9
              have hk2 : (k : Int) < (nB1 : Int) := by omega
              go_wp2_with fail
              go_region_held3 (fun w' => w'.cell? ⟨g, k * 3, none⟩ = some (.string (FB k)) ∧ w'.cell? ⟨g, k * 3 + 1, none⟩ = some (.string (TB k)) ∧ w'.cell? ⟨g, k * 3 + 2, none⟩ = some (.iface 3 (.int .i64 (QB k))) ∧ w'.cell? ⟨x, o + k * 3, none⟩ = some (.string (FB k)) ∧ w'.cell? ⟨x, o + k * 3 + 1, none⟩ = some (.string (TB k)) ∧ w'.cell? ⟨x, o + k * 3 + 2, none⟩ = some (.int .i64 (QB k)))
                (go_keep)
                (first | (go_at_call 19; refine (msgIs_any (FB k) (TB k) (QB k) _).mono ?_; rintro e w3 ⟨rfl, hb3⟩; (have E1 := later hb3 q0); (have E2 := later hb3 q1); (have E3 := later hb3 q2); (have E4 := later hb3 t0); (have E5 := later hb3 t1); (have E6 := later hb3 t2); (have HB5 : Hid (Below wr.heap.size wr w3) := ⟨hb3.os, hb3.tape, hb3.output, hb3.size, hb3.block⟩)))
              clear hb3 E1 E2 E3 E4 E5 E6 q0 q1 q2 t0 t1 t2
              go_wp2_with fail
              go_roundw
              case rel => exact ⟨k + 1, by omega, by go_num, HBL.out.trans (HB5.out.mono HBL.out.size)⟩
              case measure => simp [intOf]; omega
            obtain rfl : nB = k := by omega
            clear hk hlt y9
            obtain ⟨q0, q1, q2⟩ := HAL.out.2.below hbel
            obtain ⟨xn, on, he, s0, -⟩ := HN.out.below HBR.out (Nat.le_refl _) fr hfr
            cases he
            clear hbel HAL HBL HBW7
            go_wp2_with fail
            go_region_held3 (fun w' => w'.cell? ⟨g, nB * 3, none⟩ = some (.string (S fr)) ∧ w'.cell? ⟨g, nB * 3 + 1, none⟩ = some (.string tN) ∧ w'.cell? ⟨g, nB * 3 + 2, none⟩ = some (.iface 3 (.int .i64 q)) ∧ w'.cell? ⟨xn, on + fr, none⟩ = some (.string (S fr)))
              (go_keep)
              (first | (go_at_call 19; refine (msgIs_any (S fr) tN q _).mono ?_; rintro e w3 ⟨rfl, hb3⟩; (have E1 := later hb3 q0); (have E2 := later hb3 q1); (have E3 := later hb3 q2); (have E4 := later hb3 s0); (have HB5 : Hid (Below wr.heap.size wr w3) := ⟨hb3.os, hb3.tape, hb3.output, hb3.size, hb3.block⟩)))
            have HEND : Hid (Below W.heap.size W w3) := HBR.out.trans (HB5.out.mono HBR.out.size)
            clear hb3 E1 E2 E3 E4 q0 q1 q2 s0
            go_wp2_with fail
            go_ret
            exact ⟨rfl, HEND.out⟩
end Go.Proofs.Qxb6608660aFmt

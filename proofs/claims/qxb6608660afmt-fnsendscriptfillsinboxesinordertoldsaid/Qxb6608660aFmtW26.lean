/- My own work on the program: the law of the script of sends, p (by tools/gen_l4.py). -/
import Derived.Test.Qxb6608660aFmtW25
import Derived.Deep.RegionHeld3
namespace Go.Proofs.Qxb6608660aFmt
open Go.RowKit
set_option linter.unusedSimpArgs false
set_option linter.unusedVariables false

set_option maxRecDepth 100000 in
set_option maxHeartbeats 8000000 in
theorem law4_plain (aN : Option Addr) (N cN : Nat) (S : Nat → ByteArray) (fr : Nat) (aO : Option Addr) (m cO : Nat) (T : Nat → ByteArray) (Q : Nat → Int) (aC : Option Addr) (K cC : Nat) (A : Nat → Option Addr) (L C : Nat → Nat) (Z : Nat → Nat → Int) (aA : Option Addr) (sl cA : Nat) (SZ : Nat → Int) (ms : Int) (W : World)
    (bN : N ≤ 4096) (bO : m ≤ 4096) (bC : K ≤ 4096) (bA : sl ≤ 4096) (hfr : fr < N) (hN : StrsAt W aN N S) (hO : OutsAt W aO m T Q) (hC : RowsAt W aC K A L C Z) (hA : IntsAt W aA sl SZ) (zA : aA = none → sl = 0) :
    Calls Tryf.prog 4 #[.slice aN N cN, .int .i64 fr, .slice aO m cO, .bool false, .slice aC K cC, .slice aA sl cA, .int .i64 ms] W (LawPost W) := by
  have HZ : Hid (Calls Tryf.prog 22 #[.slice aN N cN, .int .i64 fr, .slice aO m cO, .bool false, .slice aC K cC, .slice aA sl cA, .int .i64 ms] W (ZzPost (∀ j, j < K → L j ≤ 1048576) W)) :=
    zzSS_any aN N cN S fr aO m cO T Q false aC K cC A L C Z aA sl cA ms W (by unfold maxLen; omega) (by unfold maxLen; omega) (by unfold maxLen; omega) (by unfold maxLen; omega) hN hO hC
  have HN : Hid (StrsAt W aN N S) := hN
  have HO : Hid (OutsAt W aO m T Q) := hO
  have HC : Hid (RowsAt W aC K A L C Z) := hC
  have HA : Hid (IntsAt W aA sl SZ ∧ (aA = none → sl = 0)) := ⟨hA, zA⟩
  have v0 : decide ((4096 : Int) < (N : Int)) = false := by simp; omega
  have v1 : decide ((4096 : Int) < (m : Int)) = false := by simp; omega
  have v2 : decide ((4096 : Int) < (K : Int)) = false := by simp; omega
  have v3 : decide ((4096 : Int) < (sl : Int)) = false := by simp; omega
  have v4 : decide ((fr : Int) < 0) = false := by simp
  have v5 : decide ((N : Int) ≤ (fr : Int)) = false := by simp; omega
  clear hN hO hC hA zA
  go_enter Tryf.func4, Tryf.ntmps4
  go_wp2_with fail
  refine HZ.out.mono ?_
  rintro e W ⟨b, rfl, rfl, hb⟩
  cases b
  · go_wp2_with fail
    go_ret
    exact ⟨rfl, Below.refl _ _⟩
  have HL : Hid (∀ i, i < K → L i ≤ 1048576) := hb rfl
  clear hb HZ
  go_wp2_with fail
  refine (namesBytes_any aN N cN S _ _ (by omega) HN.out).mono ?_
  rintro e W ⟨⟨r1, rfl⟩, rfl⟩
  go_wp2_with fail
  refine (outBytes_any aO m cO T Q _ _ (by omega) HO.out).mono ?_
  rintro e W ⟨⟨r2, rfl⟩, rfl⟩
  go_wp2_with fail
  refine (rowsBytes_any aC K cC A L C Z _ _ (by omega) HC.out).mono ?_
  rintro e W ⟨⟨r3, rfl⟩, rfl⟩
  by_cases g1 : r3 ≤ 1048576
  case neg =>
    go_wp2_with fail
    go_ret
    exact ⟨rfl, Below.refl _ _⟩
  have hmm := run_makeMap_hint 67 3 Tryf.underlying67 N
  go_wp2_with fail
  clear hmm g1
  -- THE NAMES
  obtain ⟨Bi, hBi⟩ : ∃ Bi, Bi = W.heap.size := ⟨_, rfl⟩
  have HM0 : Hid (MapIs (W.alloc (.map #[] 0)) intR Bi 0 (lastN S 0)) := by rw [hBi]; exact MapIs.made W intR
  have HBi : Hid (W.heap.size ≤ Bi) := by rw [hBi]; exact Nat.le_refl _
  rw [← hBi]
  clear hBi
  go_loopw [17] (fun i wr => ∃ k : Nat, k ≤ N ∧ i = .int .i64 k ∧ MapIs wr intR Bi k (lastN S k) ∧ Below W.heap.size W wr) (fun i _ => N - (intOf i).toNat)
  case atStart => exact ⟨0, Nat.zero_le _, rfl, HM0.out, (Below.refl _ _).alloc (Nat.le_refl _) _⟩
  case round =>
    obtain ⟨k, hk, rfl, hmap, hbel⟩ := hrel
    clear HM0
    have HMP : Hid (MapIs wr intR Bi k (lastN S k)) := hmap
    have HB : Hid (Below W.heap.size W wr) := hbel
    clear hmap hbel
    by_cases hlt : k < N
    · obtain ⟨x, o, rfl, s0, hs0⟩ := HN.out.below HB.out (Nat.le_refl _) k hlt
      obtain ⟨w6, hup0, hm6, hg6⟩ := HMP.out.update Tryf.underlying67 (by unfold maxLen; omega) hs0 (v := .int .i64 k) (d := k) rfl
      have hup : (Instr.mapUpdate 67 (.map (some Bi)) (.string (S k)) (.int .i64 k)).run Tryf.prog wr = .ok () w6 := hup0
      have HM6 : Hid (MapIs w6 intR Bi (k + 1) (lastN S (k + 1)) ∧ Below W.heap.size W w6) := ⟨by rw [← lastN_step]; exact hm6, HB.out.grown hg6 HB.out.size (fun b e => by cases e; exact HBi.out)⟩
      clear hup0 hm6 hg6
      go_wp2_with fail
      go_roundw
      case rel => exact ⟨k + 1, by omega, by go_num, HM6.out.1, HM6.out.2⟩
      case measure => simp [intOf]; omega
    obtain rfl : N = k := by omega
    clear hk hlt
    obtain ⟨V0, hV0⟩ : ∃ V0, V0 = wr := ⟨_, rfl⟩
    subst hV0
    obtain ⟨mm, hlen0⟩ := HMP.out.len Tryf.underlying67
    by_cases hmn : mm = N
    case neg =>
      have u0 : ((mm : Int) != (N : Int)) = true := by rw [bne_iff_ne]; omega
      go_wp2_with fail
      go_ret
      exact ⟨rfl, HB.out⟩
    obtain rfl : N = mm := hmn.symm
    go_wp2_with fail
    clear hlen0
    -- THE ADDRESSEES
    go_loop [18, 19, 20] (fun i _ _ => ∃ k : Nat, k ≤ m ∧ i = .int .i64 k ∧ ∀ j, j < k → (lastN S N (T j)).isSome = true) (fun i _ _ => m - (intOf i).toNat)
    case atStart => exact ⟨0, Nat.zero_le _, rfl, fun j hj => absurd hj (by omega)⟩
    case round =>
      obtain ⟨k, hk, rfl, hall⟩ := hrel
      have HALL : Hid (∀ j, j < k → (lastN S N (T j)).isSome = true) := hall
      clear hall
      by_cases hlt : k < m
      · obtain ⟨x, o, rfl, t0, t1, ts⟩ := HO.out.below HB.out (Nat.le_refl _) k hlt
        obtain ⟨v, ps, hlk, hv⟩ := HMP.out.look (t := 67) (e := 3) Tryf.underlying67 (zero3 V0) rfl ts
        clear hv
        by_cases hsome : (lastN S N (T k)).isSome = true
        · rw [hsome] at hlk
          go_wp2_with fail
          go_round
          case rel => exact ⟨k + 1, by omega, by go_num, fun j hj => by rcases (show j < k ∨ j = k from by omega) with e | rfl; exact HALL.out j e; exact hsome⟩
          case measure => simp [intOf]; omega
        · have hno : (lastN S N (T k)).isSome = false := by simpa using hsome
          clear hsome
          rw [hno] at hlk
          go_wp2_with fail
          go_ret
          exact ⟨rfl, HB.out⟩
      obtain rfl : m = k := by omega
      clear hk hlt
      obtain ⟨dst, hdst⟩ : ∃ dst : Nat → Nat, ∀ i, i < m → lastN S N (T i) = some (dst i) := ⟨fun i => (lastN S N (T i)).getD 0, fun i hi => by have := HALL.out i hi; rw [Option.isSome_iff_exists] at this; obtain ⟨d, hd⟩ := this; simp [hd]⟩
      have HD : Hid (∀ i, i < m → lastN S N (T i) = some (dst i)) := hdst
      clear hdst HALL
      go_wp2_with fail
      -- THE SYSTEM
      refine (buildNodes_any aN N cN S (-1) none 0 0 (fun _ => ByteArray.empty) (fun _ => ByteArray.empty) (fun _ => 0) none 0 0 (fun _ => none) (fun _ => 0) (fun _ => 0) (fun _ _ => 0) (fun _ => 0) V0 bN (HN.out.below HB.out (Nat.le_refl _)) (by omega) (fun _ => rfl) (fun i hi => absurd hi (by omega)) (by omega) (fun _ => rfl) (fun i hi => absurd hi (by omega)) (fun i hi => absurd hi (by omega))).mono ?_
      rintro e w1 ⟨tg, Bn, Bm, nb, val, cnt, cs, f, rfl, hnd, hpr⟩
      have HND : Hid (NodesIn V0 w1 tg Bn Bm N S N nb val cnt cs f) := hnd
      have HPR : Hid (∀ j, j < N → cnt (1 + 2 * j) = 0 ∧ cnt (2 + 2 * j) = 0) := fun j hj => by have := (hpr j hj).2 (by omega); exact ⟨this.1, this.2.2.1⟩
      have HBW1 : Hid (Below W.heap.size W w1) := HB.out.trans (hnd.bel.mono HB.out.size)
      clear hnd hpr
      go_wp2_with fail
      refine (buildTracer_no _ _ _ _ _ _ _ _).mono ?_
      rintro e w2 ⟨rfl, hw2⟩
      have HB2 : Hid (Below w1.heap.size w1 w2) := by rw [hw2]; exact Below.refl _ _
      clear hw2
      obtain ⟨Bt, hBt⟩ : ∃ Bt, Bt = w2.heap.size + 2 := ⟨_, rfl⟩
      obtain ⟨Bc, hBc⟩ : ∃ Bc, Bc = 0 := ⟨_, rfl⟩
      have HBT : Hid (w1.heap.size ≤ Bt ∧ Bt ≠ w2.heap.size ∧ Bt ≠ w2.heap.size + 1) := ⟨by have := HB2.out.size; omega, by omega, by omega⟩
      clear hBt hBc
      have hnf : w2.cell? ⟨Bn, fr, none⟩ = some (.pointer (some ⟨nb fr, 0, none⟩)) := cell_below HB2.out ((HND.out.row.cell hfr).trans (congrArg some (HND.out.ptrs fr hfr)))
      have hnf1 := farA (O := .cells (sysCells (.slice (some ⟨Bn, 0, none⟩) N N) (.map (some Bm)) (.pointer none) (.slice none 0 0)) 93) hnf
      go_wp2_with fail
      refine (newSystem_any _ _ _ _ _ _ _ _ _).mono ?_
      rintro e w3 ⟨rfl, rfl⟩
      go_wp2_with fail
      refine (newContext_any _ _ _).mono ?_
      rintro e w4 ⟨rfl, rfl⟩
      obtain ⟨V1, hV1⟩ : ∃ V1, V1 = ((w2.alloc (.cells (sysCells (.slice (some ⟨Bn, 0, none⟩) N N) (.map (some Bm)) (.pointer none) (.slice none 0 0)) 93)).alloc (.cells #[.pointer (some ⟨w2.heap.size, 0, none⟩), .pointer (some ⟨nb fr, 0, none⟩)] 81)) := ⟨_, rfl⟩
      obtain ⟨Bsys, hBs⟩ : ∃ Bsys, Bsys = w2.heap.size := ⟨_, rfl⟩
      obtain ⟨Bx, hBx⟩ : ∃ Bx, Bx = w2.heap.size + 1 := ⟨_, rfl⟩
      have HST : Hid (∃ (tg : Nat → Nat × Nat) (val : Nat → Value) (cnt : Nat → Nat) (cs : Nat → List Value), Sent V0.heap.size V0 V1 tg N Bx Bsys Bm fr (.slice (some ⟨Bn, 0, none⟩) N N) nb S false Bt Bc K K 0 (fun _ => 0) dst T Q ms 0 val cnt cs ∧ V1.rowIs Bn 44 N f ∧ (tg Bn).1 = 4) := by
        obtain ⟨tg', t1, t2, t3, hsys⟩ := sys_start HND.out HB2.out (sv := .slice none 0 0) (n0 := 0) (x0 := []) (World.ownsRow_nil _ _ _ _) hfr HBT.out.1 HBT.out.2.1 HBT.out.2.2 (fun e => by cases e) none
        rw [← hV1, ← hBx, ← hBs] at hsys
        have h21 : Below w2.heap.size w2 V1 := by rw [hV1]; exact ((Below.refl _ _).alloc (Nat.le_refl _) _).alloc (by simp) _
        refine ⟨tg', _, _, _, sent_start hsys HPR.out (fun e => by cases e), HND.out.row.of_block ((HB2.out.trans (h21.mono HB2.out.size)).block _ HND.out.row.lt), by rw [t1 _ HND.out.row.lt, HND.out.gb]⟩
      have HPT : Hid (∀ j, j < N → f j = .pointer (some ⟨nb j, 0, none⟩)) := HND.out.ptrs
      go_wp2_with fail
      try simp only [World.heap_alloc, Array.size_push]
      rw [← hV1]
      try rw [← hBx]
      try rw [← hBs]
      clear hV1 hBs hBx hnf hnf1 HND HPR HBW1 HB2 HBT
      -- THE SENDS
      go_loopw [25] (fun i wr => ∃ (k : Nat) (tg : Nat → Nat × Nat) (val : Nat → Value) (cnt : Nat → Nat) (cs : Nat → List Value), k ≤ m ∧ i = .int .i64 k ∧ Sent V0.heap.size V0 wr tg N Bx Bsys Bm fr (.slice (some ⟨Bn, 0, none⟩) N N) nb S false Bt Bc K K 0 (fun _ => 0) dst T Q ms k val cnt cs ∧ wr.rowIs Bn 44 N f ∧ (tg Bn).1 = 4) (fun i _ => m - (intOf i).toNat)
      case atStart =>
        obtain ⟨tg, val, cnt, cs, h1, h2, h3⟩ := HST.out
        exact ⟨0, tg, val, cnt, cs, Nat.zero_le _, rfl, h1, h2, h3⟩
      case round =>
        obtain ⟨k, tg, val, cnt, cs, hk, rfl, hsent, hrow, htb⟩ := hrel
        clear HST
        have HSN : Hid (Sent V0.heap.size V0 wr tg N Bx Bsys Bm fr (.slice (some ⟨Bn, 0, none⟩) N N) nb S false Bt Bc K K 0 (fun _ => 0) dst T Q ms k val cnt cs) := hsent
        have HRW : Hid (wr.rowIs Bn 44 N f ∧ (tg Bn).1 = 4) := ⟨hrow, htb⟩
        clear hsent hrow htb
        by_cases hlt : k < m
        · obtain ⟨x, o, rfl, t0, t1, ts⟩ := HO.out.below HB.out (Nat.le_refl _) k hlt
          have hxl : x < V0.heap.size := World.block_lt_of_cell? V0 _ t0
          have HTV : Hid (∀ w5, Below V0.heap.size V0 w5 → w5.cell? ⟨x, o + k * 2, none⟩ = some (.string (T k)) ∧ w5.cell? ⟨x, o + k * 2 + 1, none⟩ = some (.int .i64 (Q k))) := fun w5 hb => ⟨cell_below hb t0, cell_below hb t1⟩
          obtain ⟨c0, c1⟩ := HTV.out wr HSN.out.sys.bel
          have HCALL : Hid (Calls Tryf.prog 15 #[.pointer (some ⟨Bx, 0, none⟩), .string (T k), .int .i64 (Q k)] wr.drew (SentPost V0.heap.size V0 wr.drew tg N Bx Bsys Bm fr (.slice (some ⟨Bn, 0, none⟩) N N) nb S false Bt Bc K K 0 (fun _ => 0) dst T Q ms (k + 1))) :=
            zzSend_any (HSN.out.later (Below.refl _ _).drew) ts (HD.out k hlt) (by omega)
          clear t0 t1
          go_wp2_with fail
          go_region_held3 (fun w' => w'.cell? ⟨x, o + k * 2, none⟩ = some (.string (T k)) ∧ w'.cell? ⟨x, o + k * 2 + 1, none⟩ = some (.int .i64 (Q k)))
            (go_keep)
            (first | (go_at_call 15; refine HCALL.out.mono ?_; rintro e w5 ⟨rfl, tg5, val5, cnt5, cs5, hl5, hs5⟩; (have HS5 : Hid (Link3 tg wr.drew tg5 w5 ∧ Sent V0.heap.size V0 w5 tg5 N Bx Bsys Bm fr (.slice (some ⟨Bn, 0, none⟩) N N) nb S false Bt Bc K K 0 (fun _ => 0) dst T Q ms (k + 1) val5 cnt5 cs5) := ⟨hl5, hs5⟩); (obtain ⟨c3, c4⟩ := HTV.out w5 hs5.sys.bel); clear hl5 hs5))
          go_wp2_with fail
          go_roundw
          case rel => exact ⟨k + 1, tg5, val5, cnt5, cs5, by omega, by go_num, HS5.out.2, HS5.out.1.row (w := wr.drew) HRW.out.1 (.inl HRW.out.2), by rw [HS5.out.1.1 Bn (show Bn < wr.drew.heap.size from HRW.out.1.lt)]; exact HRW.out.2⟩
          case measure => simp [intOf]; omega
        obtain rfl : m = k := by omega
        clear hk hlt
        obtain ⟨V, hV⟩ : ∃ V, V = wr := ⟨_, rfl⟩
        subst hV
        have HBV : Hid (Below V0.heap.size V0 V) := HSN.out.sys.bel
        have HFI : Hid (Fin V N Bn Bsys fr nb S false 0 (fun _ => 0) dst T Q ms m) := HSN.out.fin (fun i hi => lastN_lt (HD.out i hi)) HRW.out.1 HPT.out
        have HMV : Hid (MapIs V intR Bi N (lastN S N)) := HMP.out.of_block (HBV.out.block _ HMP.out.lt)
        have HBWV : Hid (Below W.heap.size W V) := HB.out.trans (HBV.out.mono HB.out.size)
        have HWT : Hid (IntsAt V none 0 (fun _ => 0) ∧ 0 ≤ 1048576) := ⟨fun i hi => absurd hi (by omega), by omega⟩
        clear HSN HRW HPT HMP
        have hmk := run_make_row' (P := Tryf.prog) 26 3 (.int .i64 0) 8 Tryf.underlying26 Tryf.info3 rfl .i64 .i64 N (by omega) (by omega)
        go_wp2_with fail
        -- THE COUNTS
        clear hmk
        go_loopw [28, 29] (fun i _ wr => ∃ (k : Nat) (g : Nat → Value), k ≤ m ∧ i = .int .i64 k ∧ wr.rowIs V.heap.size 3 N g ∧ (∀ j, j < N → g j = .int .i64 (cntM dst k j)) ∧ Below V.heap.size V wr) (fun i _ _ => m - (intOf i).toNat)
        case atStart => exact ⟨0, _, Nat.zero_le _, rfl, World.rowIs_made V _ N 3, fun j hj => rfl, (Below.refl _ _).alloc (Nat.le_refl _) _⟩
        case round =>
          obtain ⟨k, g, hk, rfl, hrow, hg, hbel⟩ := hrel
          have HR : Hid (wr.rowIs V.heap.size 3 N g ∧ (∀ j, j < N → g j = .int .i64 (cntM dst k j)) ∧ Below V.heap.size V wr) := ⟨hrow, hg, hbel⟩
          by_cases hlt : k < m
          · have hdn : dst k < N := lastN_lt (HD.out k hlt)
            have hcc := cntM_le dst k (dst k)
            obtain ⟨x, o, rfl, t0, t1, ts⟩ := (HO.out.below HBWV.out (Nat.le_refl _)).below hbel (Nat.le_refl _) k hlt
            have hmw : MapIs wr intR Bi N (lastN S N) := HMV.out.of_block (hbel.block _ HMV.out.lt)
            obtain ⟨v, ps, hlk, hv⟩ := hmw.look1 (t := 67) (e := 3) Tryf.underlying67 (zero3 wr) rfl ts (HD.out k hlt)
            obtain rfl := intR_inv hv
            have d0 : wr.cell? ⟨V.heap.size, dst k, none⟩ = some (.int .i64 (cntM dst k (dst k))) := (hrow.cell hdn).trans (congrArg some (hg _ hdn))
            have e0 := hrow.frozen (dst k)
            have hdi : ((dst k : Nat) : Int) < (N : Int) := by omega
            clear hv hmw hrow hg hbel t1
            go_wp2_with fail
            go_roundw
            case rel =>
              refine ⟨k + 1, _, by omega, by go_num, HR.out.1.set (dst k) _, fun j hj => ?_, HR.out.2.2.setCell (Nat.le_refl _) _⟩
              by_cases e : j = dst k
              · subst e; rw [if_pos rfl, cntM_same]; rfl
              · rw [if_neg e, cntM_other dst e]; exact HR.out.2.1 j hj
            case measure => simp [intOf]; omega
          obtain rfl : m = k := by omega
          clear hk hlt hrow hg hbel
          obtain ⟨V2, hV2⟩ : ∃ V2, V2 = wr := ⟨_, rfl⟩
          subst hV2
          have HF2 : Hid (Fin V2 N Bn Bsys fr nb S false 0 (fun _ => 0) dst T Q ms m) := HFI.out.below HR.out.2.2
          go_wp2_with fail
          -- THE LENGTHS
          go_loopw [30, 31] (fun i _ wr => ∃ k : Nat, k ≤ N ∧ i = .int .i64 k ∧ Below V2.heap.size V2 wr) (fun i _ _ => N - (intOf i).toNat)
          case atStart => exact ⟨0, Nat.zero_le _, rfl, Below.refl _ _⟩
          case round =>
            obtain ⟨k, hk, rfl, hbel⟩ := hrel
            have HBL : Hid (Below V2.heap.size V2 wr) := hbel
            clear hbel
            by_cases hlt : k < N
            · have n0 := cell_below HBL.out (HF2.out.nrow k hlt)
              obtain ⟨ia, ic, i0'⟩ := HF2.out.inb k hlt
              have i0 := cell_below HBL.out i0'
              obtain ⟨sa3, sc3, s0'⟩ := HF2.out.stm k hlt
              have s0 : wr.cell? ⟨nb k, 4, none⟩ = some (.slice sa3 0 sc3) := cell_below HBL.out s0'
              have c0 : wr.cell? ⟨V.heap.size, k, none⟩ = some (.int .i64 (cntM dst m k)) := cell_below HBL.out ((HR.out.1.cell hlt).trans (congrArg some (HR.out.2.1 k hlt)))
              clear i0' s0'
              have n0d : wr.drew.cell? ⟨Bn, k, none⟩ = some (.pointer (some ⟨nb k, 0, none⟩)) := n0
              have i0d : wr.drew.cell? ⟨nb k, 3, none⟩ = some (.slice ia (cntM dst m k) ic) := i0
              have s0d : wr.drew.cell? ⟨nb k, 4, none⟩ = some (.slice sa3 0 sc3) := s0
              have c0d : wr.drew.cell? ⟨V.heap.size, k, none⟩ = some (.int .i64 (cntM dst m k)) := c0
              generalize cntM dst m k = cq at *
              go_wp2_with fail
              go_region_held3 (fun w' => w'.cell? ⟨Bn, k, none⟩ = some (.pointer (some ⟨nb k, 0, none⟩)) ∧ w'.cell? ⟨V.heap.size, k, none⟩ = some (.int .i64 cq))
                (go_keep)
                (first | (go_at_call 16; refine (nodeInbox_any (nb k) _ _ i0d).mono ?_; rintro e w5 ⟨rfl, rfl⟩))
              go_wp2_with (go_at_call 17; refine (nodeStamps_any (nb k) _ _ s0d).mono ?_; rintro e w5 ⟨rfl, rfl⟩)
              go_roundw
              case rel => exact ⟨k + 1, by omega, by go_num, HBL.out.drew⟩
              case measure => simp [intOf]; omega
            obtain rfl : N = k := by omega
            clear hk hlt
            obtain ⟨V3, hV3⟩ : ∃ V3, V3 = wr := ⟨_, rfl⟩
            subst hV3
            have HB3 : Hid (Below V.heap.size V V3) := HR.out.2.2.trans (HBL.out.mono HR.out.2.2.size)
            have HF3 : Hid (Fin V3 N Bn Bsys fr nb S false 0 (fun _ => 0) dst T Q ms m) := HF2.out.below HBL.out
            clear HF2 HBL HR HFI
            have hmk := run_make_row' (P := Tryf.prog) 26 3 (.int .i64 0) 8 Tryf.underlying26 Tryf.info3 rfl .i64 .i64 N (by omega) (by omega)
            go_wp2_with fail
            clear hmk
            -- THE MESSAGES
            go_loopw [33, 34, 35, 36] (fun i _ _ _ wr => ∃ (k : Nat) (g : Nat → Value), k ≤ m ∧ i = .int .i64 k ∧ wr.rowIs V3.heap.size 3 N g ∧ (∀ j, j < N → g j = .int .i64 (cntM dst k j)) ∧ Below V3.heap.size V3 wr) (fun i _ _ _ _ => m - (intOf i).toNat)
            case atStart => exact ⟨0, _, Nat.zero_le _, rfl, World.rowIs_made V3 _ N 3, fun j hj => rfl, (Below.refl _ _).alloc (Nat.le_refl _) _⟩
            case round =>
              obtain ⟨k, gv, hk, rfl, hrow, hg, hbel⟩ := hrel
              have HR : Hid (wr.rowIs V3.heap.size 3 N gv ∧ (∀ j, j < N → gv j = .int .i64 (cntM dst k j)) ∧ Below V3.heap.size V3 wr) := ⟨hrow, hg, hbel⟩
              have HBR : Hid (Below W.heap.size W wr) := HBWV.out.trans ((HB3.out.trans (hbel.mono HB3.out.size)).mono HBWV.out.size)
              by_cases hlt : k < m
              · have hdn : dst k < N := lastN_lt (HD.out k hlt)
                have hcc := cntM_le dst k (dst k)
                have hcm := cntM_lt dst hlt
                have hcl := cntM_le dst m (dst k)
                obtain ⟨x, o, rfl, t0, t1, ts⟩ := HO.out.below HBR.out (Nat.le_refl _) k hlt
                obtain ⟨xn, on, rfl, s0, -⟩ := HN.out.below HBR.out (Nat.le_refl _) fr hfr
                have hmw : MapIs wr intR Bi N (lastN S N) := HMV.out.of_block ((HB3.out.trans (hbel.mono HB3.out.size)).block _ HMV.out.lt)
                obtain ⟨v, ps, hlk, hv⟩ := hmw.look1 (t := 67) (e := 3) Tryf.underlying67 (zero3 wr) rfl ts (HD.out k hlt)
                obtain rfl := intR_inv hv
                have n0 : wr.cell? ⟨Bn, dst k, none⟩ = some (.pointer (some ⟨nb (dst k), 0, none⟩)) := cell_below hbel (HF3.out.nrow _ hdn)
                have p0 : wr.cell? ⟨V3.heap.size, dst k, none⟩ = some (.int .i64 (cntM dst k (dst k))) := (hrow.cell hdn).trans (congrArg some (hg _ hdn))
                have hdi : ((dst k : Nat) : Int) < (N : Int) := by omega
                obtain ⟨g, gc, i0', hmi'⟩ := HF3.out.msg k hlt
                have i0 := cell_below hbel i0'
                obtain ⟨q0, q1, q2⟩ := hmi'.below hbel
                have hdr : dst k < N := hdn
                have hVl : V3.heap.size < wr.heap.size := hrow.lt
                have hHN : cntM dst (k + 1) (dst k) = cntM dst k (dst k) + 1 := cntM_same dst k
                have HOT : Hid (∀ j, j ≠ dst k → cntM dst (k + 1) j = cntM dst k j) := fun j e => cntM_other dst e
                clear hv hmw hrow hg hbel i0' hmi'
                obtain ⟨pq, hpq⟩ : ∃ pq, pq = cntM dst k (dst k) := ⟨_, rfl⟩
                obtain ⟨cq, hcq⟩ : ∃ cq, cq = cntM dst m (dst k) := ⟨_, rfl⟩
                rw [← hpq] at hcc hcm p0 q0 q1 q2 hHN
                rw [← hcq] at hcm i0 hcl
                clear hcq
                have hpc : ((pq : Nat) : Int) < (cq : Int) := by omega
                have HPQ : Hid (pq = cntM dst k (dst k) ∧ cntM dst (k + 1) (dst k) = pq + 1) := ⟨hpq, hHN⟩
                clear hpq hHN
                go_wp2_with (go_at_call 16; refine (nodeInbox_any (nb (dst k)) _ _ i0).mono ?_; rintro e wr ⟨rfl, rfl⟩)
                go_region_held3 (fun w' => w'.cell? ⟨V3.heap.size, dst k, none⟩ = some (.int .i64 pq) ∧ w'.cell? ⟨g, pq * 3, none⟩ = some (.string (S fr)) ∧ w'.cell? ⟨g, pq * 3 + 1, none⟩ = some (.string (T k)) ∧ w'.cell? ⟨g, pq * 3 + 2, none⟩ = some (.iface 3 (.int .i64 (Q k))) ∧ w'.cell? ⟨xn, on + fr, none⟩ = some (.string (S fr)) ∧ w'.cell? ⟨x, o + k * 2, none⟩ = some (.string (T k)) ∧ w'.cell? ⟨x, o + k * 2 + 1, none⟩ = some (.int .i64 (Q k)))
                  (go_keep)
                  (first | (go_at_call 19; refine (msgIs_any (S fr) (T k) (Q k) _).mono ?_; rintro e w3 ⟨rfl, hb3⟩; (have E0 := later hb3 p0); (have E1 := later hb3 q0); (have E2 := later hb3 q1); (have E3 := later hb3 q2); (have E4 := later hb3 s0); (have E5 := later hb3 t0); (have E6 := later hb3 t1); (have HB5 : Hid (Below wr.heap.size wr w3) := ⟨hb3.os, hb3.tape, hb3.output, hb3.size, hb3.block⟩)))
                have hr3 := HR.out.1.of_block (HB5.out.block _ hVl)
                have e0 := hr3.frozen (dst k)
                clear hb3 E1 E2 E3 E4 E5 E6 q0 q1 q2 s0 t0 t1 hr3
                go_wp2_with fail
                go_roundw
                case rel =>
                  refine ⟨k + 1, _, by omega, by go_num, (HR.out.1.of_block (HB5.out.block _ hVl)).set (dst k) _, fun j hj => ?_, (HR.out.2.2.trans (HB5.out.mono (by omega))).setCell (Nat.le_refl _) _⟩
                  by_cases e : j = dst k
                  · subst e; rw [if_pos rfl, HPQ.out.2]; rfl
                  · rw [if_neg e, HOT.out j e]; exact HR.out.2.1 j hj
                case measure => simp [intOf]; omega
              obtain rfl : m = k := by omega
              clear hk hlt hrow hg
              obtain ⟨V4, hV4⟩ : ∃ V4, V4 = wr := ⟨_, rfl⟩
              subst hV4
              obtain ⟨sta, stc, y9', hall'⟩ := HF3.out.out
              have y9 := cell_below hbel y9'
              have HAL : Hid (∀ i, i < m → ∃ g, sta = some ⟨g, 0, none⟩ ∧ MsgIn V4 g i (S fr) (T i) (Q i)) := fun i hi => by obtain ⟨g, e, h⟩ := hall' i hi; exact ⟨g, e, h.below hbel⟩
              clear hbel y9' hall' HF3 HR
              go_wp2_with (go_at_call 21; refine (sysSent_any Bsys _ _ y9).mono ?_; rintro e V4 ⟨rfl, rfl⟩)
              -- THE SENT LIST
              go_loopw [38] (fun i wr => ∃ k : Nat, k ≤ m ∧ i = .int .i64 k ∧ Below V4.heap.size V4 wr) (fun i _ => m - (intOf i).toNat)
              case atStart => exact ⟨0, Nat.zero_le _, rfl, Below.refl _ _⟩
              case round =>
                obtain ⟨k, hk, rfl, hbel⟩ := hrel
                have HBL : Hid (Below V4.heap.size V4 wr) := hbel
                by_cases hlt : k < m
                · obtain ⟨g, rfl, hmi⟩ := HAL.out k hlt
                  obtain ⟨q0, q1, q2⟩ := hmi.below hbel
                  obtain ⟨x, o, rfl, t0, t1, ts⟩ := (HO.out.below HBR.out (Nat.le_refl _)).below hbel (Nat.le_refl _) k hlt
                  obtain ⟨xn, on, rfl, s0, -⟩ := (HN.out.below HBR.out (Nat.le_refl _)).below hbel (Nat.le_refl _) fr hfr
                  clear hbel hmi y9
                  go_wp2_with fail
                  go_region_held3 (fun w' => w'.cell? ⟨g, k * 3, none⟩ = some (.string (S fr)) ∧ w'.cell? ⟨g, k * 3 + 1, none⟩ = some (.string (T k)) ∧ w'.cell? ⟨g, k * 3 + 2, none⟩ = some (.iface 3 (.int .i64 (Q k))) ∧ w'.cell? ⟨xn, on + fr, none⟩ = some (.string (S fr)) ∧ w'.cell? ⟨x, o + k * 2, none⟩ = some (.string (T k)) ∧ w'.cell? ⟨x, o + k * 2 + 1, none⟩ = some (.int .i64 (Q k)))
                    (go_keep)
                    (first | (go_at_call 19; refine (msgIs_any (S fr) (T k) (Q k) _).mono ?_; rintro e w3 ⟨rfl, hb3⟩; (have E1 := later hb3 q0); (have E2 := later hb3 q1); (have E3 := later hb3 q2); (have E4 := later hb3 s0); (have E5 := later hb3 t0); (have E6 := later hb3 t1); (have HB5 : Hid (Below wr.heap.size wr w3) := ⟨hb3.os, hb3.tape, hb3.output, hb3.size, hb3.block⟩)))
                  clear hb3 E1 E2 E3 E4 E5 E6 q0 q1 q2 s0 t0 t1
                  go_wp2_with fail
                  go_roundw
                  case rel => exact ⟨k + 1, by omega, by go_num, HBL.out.trans (HB5.out.mono HBL.out.size)⟩
                  case measure => simp [intOf]; omega
                · have HEND : Hid (Below W.heap.size W wr) := HBR.out.trans (hbel.mono HBR.out.size)
                  clear hbel
                  go_wp2_with fail
                  go_ret
                  exact ⟨rfl, HEND.out⟩
end Go.Proofs.Qxb6608660aFmt

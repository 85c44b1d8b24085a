import Derived.Test.Qxb6608660aW13
namespace Go.Proofs.Qxb6608660a
open Go.RowKit
set_option linter.unusedSimpArgs false
set_option linter.unusedVariables false

set_option maxRecDepth 100000 in
set_option maxHeartbeats 4000000 in
theorem law_traced (a0 : Option Addr) (n c0 : Nat) (F T : Nat → ByteArray) (Q : Nat → Int) (a1 : Option Addr) (c1 : Nat) (A : Nat → Option Addr) (L C : Nat → Nat) (Z : Nat → Nat → Int) (N : Nat → Int)
    (a2 : Option Addr) (m c2 : Nat) (P : Nat → Int) (W : World) (q0 : n ≤ 4096) (hn0 : 0 < n) (q2 : m ≤ 4096) (h0 : MsgsAt W a0 n F T Q) (h1 : StampsAt W a1 n A L C Z N) (h2 : IntsAt W a2 m P)
    (z0 : a0 = none → n = 0) (z1 : a1 = none → n = 0) :
    Calls Try.prog 3 #[.slice a0 n c0, .slice a1 n c1, .slice a2 m c2] W (LawPost W) := by
  have hzz := zzBytes_any a0 n c0 F T Q a1 n c1 A L C Z N a2 m c2 W (by unfold maxLen; omega) (by unfold maxLen; omega) (by unfold maxLen; omega) h0 h1
  have HZ : Hid (Calls Try.prog 5 #[.slice a0 n c0, .slice a1 n c1, .slice a2 m c2] W (ZzPost n L W)) := hzz
  have H0 : Hid (MsgsAt W a0 n F T Q) := h0
  have H1 : Hid (StampsAt W a1 n A L C Z N) := h1
  have H2 : Hid (IntsAt W a2 m P) := h2
  have Z0 : Hid (a0 = none → n = 0) := z0
  have v0 : decide ((4096 : Int) < (n : Int)) = false := by simp; omega
  have v2 : decide ((4096 : Int) < (m : Int)) = false := by simp; omega
  have mk1 := run_make_row' (P := Try.prog) 34 4 (.bool false) 1 Try.underlying34 Try.info4 rfl .i64 .i64 n (by omega) (by omega)
  have mk2 := run_make_row' (P := Try.prog) 35 37 (.pointer none) 8 Try.underlying35 Try.info37 rfl .i64 .i64 m (by omega) (by omega)
  have mk3 := run_make_row' (P := Try.prog) 24 3 (.int .i64 0) 8 Try.underlying24 Try.info3 rfl .i64 .i64 m (by omega) (by omega)
  have Z1 : Hid (a1 = none → n = 0) := z1
  have u0 : ((n : Int) != 0) = true := by rw [bne_iff_ne]; omega
  have u1 : decide ((0 : Int) < (n : Int)) = true := by simp; omega
  clear hzz h0 h1 h2 z0 z1
  go_enter Try.func3, Try.ntmps3
  go_wp2_with fail
  refine HZ.out.mono ?_
  rintro e w' ⟨b, rfl, rfl, hb⟩
  cases b
  · go_wp2_with fail
    go_ret
    exact ⟨rfl, Below.refl _ _⟩
  have HL : Hid (∀ i, i < n → L i ≤ 1048576) := hb rfl
  clear hb HZ
  go_wp2_with fail
  refine (msgBytes_any a0 n c0 F T Q _ _ (by omega) H0.out).mono ?_
  rintro e w1 ⟨⟨r, rfl⟩, j1, rfl⟩
  go_wp2_with fail
  refine (stampBytes_any a1 n c1 A L C Z N _ _ (by omega) (H1.out.below (below_drewN' _) (Nat.le_refl _))).mono ?_
  rintro e w1 ⟨⟨r', rfl⟩, rfl⟩
  by_cases g1 : r' ≤ 1048576
  case neg =>
    go_wp2_with fail
    go_ret
    exact ⟨rfl, below_drewN' _⟩
  -- THE PICKS
  go_wp2_with fail
  go_loop [9] (fun i => ∃ k : Nat, k ≤ m ∧ i = .int .i64 k ∧ ∀ j, j < k → 0 ≤ P j ∧ P j < (n : Int) - j) (fun i => m - (intOf i).toNat)
  case atStart => exact ⟨0, Nat.zero_le _, rfl, fun j hj => absurd hj (by omega)⟩
  case round =>
    obtain ⟨k, hk, rfl, hP⟩ := hrel
    have HP : Hid (∀ j, j < k → 0 ≤ P j ∧ P j < (n : Int) - j) := hP
    clear hP
    by_cases hlt : k < m
    · obtain ⟨x, o, rfl, hc⟩ := H2.out k hlt
      have h1 : (k : Int) < (m : Int) := by omega
      by_cases e1 : P k < 0
      · go_wp2_with fail
        go_ret
        exact ⟨rfl, below_drewN' _⟩
      · by_cases e2 : P k < (n : Int) - k
        · have e1' : decide (P k < 0) = false := by simp; omega
          go_wp2_with fail
          go_round
          case rel => exact ⟨k + 1, by omega, by go_num, fun j hj => by rcases (show j < k ∨ j = k from by omega) with e | rfl; exact HP.out j e; exact ⟨by omega, e2⟩⟩
          case measure => simp [intOf]; omega
        · have e1' : decide (P k < 0) = false := by simp; omega
          go_wp2_with fail
          go_ret
          exact ⟨rfl, below_drewN' _⟩
    obtain rfl : m = k := by omega
    clear hk hlt
    go_wp2_with fail
    -- THE NODE
    refine (toMessages_any a0 n c0 F T Q _ (by omega) Z0.out (H0.out.below (below_drewN' _) (Nat.le_refl _))).mono ?_
    rintro e w1 ⟨b0, rfl, hb1, hr1⟩
    have H11 : Hid (StampsAt w1 a1 n A L C Z N) := (H1.out.below (below_drewN' j1) (Nat.le_refl _)).below hb1 (Nat.le_refl _)
    have HB1 : Hid (Below (W.drewN j1).heap.size (W.drewN j1) w1) := hb1
    have HR1 : Hid (0 < n → ∃ B, b0 = some ⟨B, 0, none⟩ ∧ (W.drewN j1).heap.size ≤ B ∧ w1.rowIs B 45 (n * 3) (mcell F T Q id)) := hr1
    clear hb1 hr1
    go_wp2_with fail
    refine (toStamps_any a1 n c1 A L C Z N _ (by omega) Z1.out HL.out H11.out).mono ?_
    rintro e w2 ⟨b1, rfl, hb2, hr2⟩
    obtain ⟨A', C', Bm, Bs, ok, hinv⟩ := loop_start_traced (W := W) (m := m) q0 q2 hn0 (below_drewN' j1) (Nat.le_refl _) HB1.out HR1.out hb2 hr2
    have HI : Hid (LoopInv (ctxT n m F T Q A' L C' N Z w2.heap.size Bm Bs) W (startWorld w2 (.slice b0 n n) (.slice b1 n n) n m) 0) := hinv
    have OK : Hid ((ctxT n m F T Q A' L C' N Z w2.heap.size Bm Bs).Ok W.heap.size) := ok
    clear hinv ok
    clear hb2 hr2
    go_wp2_with fail
    refine (newNode_any b0 n n b1 n n _).mono ?_
    rintro e w3 ⟨rfl, rfl⟩
    go_wp2_with fail
    clear mk1 mk2 mk3
    have hwz : W.heap.size ≤ w2.heap.size := OK.out.bn
    go_loopw [14] (fun i wr => ∃ k : Nat, k ≤ m ∧ i = .int .i64 k ∧ LoopInv (ctxT n m F T Q A' L C' N Z w2.heap.size Bm Bs) W wr k) (fun i _ => m - (intOf i).toNat)
    case atStart => exact ⟨0, Nat.zero_le _, rfl, HI.out⟩
    case round =>
      obtain ⟨k, hk, rfl, p, arr, tk, gp, wq, hmid, hrank, hpk⟩ := hrel
      by_cases hlt : k < m
      · obtain ⟨hp0, hpn⟩ := HP.out k hlt
        obtain ⟨i, hPi⟩ := Int.eq_ofNat_of_zero_le hp0
        have hi : i < n - k := by omega
        obtain ⟨x2, o2, rfl, hc2⟩ := H2.out k hlt
        have hc : wr.cell? ⟨x2, o2 + k, none⟩ = some (.int .i64 i) := by rw [hmid.bel.cell (World.block_lt_of_cell? W _ hc2), hc2, hPi]
        have hq : arr (p + i) < n := hrank.lt i hi
        have RF : Hid (Calls Try.prog 11 #[.slice (some ⟨w2.heap.size + 1, 0, none⟩) n n, .int .i64 i] wr fun e w' => e = .returned (.int .i64 (arr (p + i))) ∧ w' = wr) :=
          rankFree_any (some ⟨w2.heap.size + 1, 0, none⟩) n n tk i (arr (p + i)) wr (by omega) (fun j hj => ⟨_, 0, rfl, by rw [Nat.zero_add]; exact hmid.tkr.cell hj⟩) hq (hrank.free i hi) (hrank.rank i hi)
        have hl := hmid.node.lts
        have RC : Hid (Calls Try.prog 12 #[.pointer (some ⟨w2.heap.size, 0, none⟩), .int .i64 i] wr (RecPost wr (ctxT n m F T Q A' L C' N Z w2.heap.size Bm Bs).Bn (ctxT n m F T Q A' L C' N Z w2.heap.size Bm Bs).Bm (ctxT n m F T Q A' L C' N Z w2.heap.size Bm Bs).Bs (ctxT n m F T Q A' L C' N Z w2.heap.size Bm Bs).n (ctxT n m F T Q A' L C' N Z w2.heap.size Bm Bs).tr (ctxT n m F T Q A' L C' N Z w2.heap.size Bm Bs).F (ctxT n m F T Q A' L C' N Z w2.heap.size Bm Bs).T (ctxT n m F T Q A' L C' N Z w2.heap.size Bm Bs).Q (ctxT n m F T Q A' L C' N Z w2.heap.size Bm Bs).A (ctxT n m F T Q A' L C' N Z w2.heap.size Bm Bs).L (ctxT n m F T Q A' L C' N Z w2.heap.size Bm Bs).C (ctxT n m F T Q A' L C' N Z w2.heap.size Bm Bs).N p (n - k) arr i)) :=
          zzReceive_any wr (ctxT n m F T Q A' L C' N Z w2.heap.size Bm Bs).Bn (ctxT n m F T Q A' L C' N Z w2.heap.size Bm Bs).Bm (ctxT n m F T Q A' L C' N Z w2.heap.size Bm Bs).Bs (ctxT n m F T Q A' L C' N Z w2.heap.size Bm Bs).n (ctxT n m F T Q A' L C' N Z w2.heap.size Bm Bs).tr (ctxT n m F T Q A' L C' N Z w2.heap.size Bm Bs).F (ctxT n m F T Q A' L C' N Z w2.heap.size Bm Bs).T (ctxT n m F T Q A' L C' N Z w2.heap.size Bm Bs).Q (ctxT n m F T Q A' L C' N Z w2.heap.size Bm Bs).A (ctxT n m F T Q A' L C' N Z w2.heap.size Bm Bs).L (ctxT n m F T Q A' L C' N Z w2.heap.size Bm Bs).C (ctxT n m F T Q A' L C' N Z w2.heap.size Bm Bs).N p (n - k) arr i OK.out.n0 (Nat.ne_of_gt (OK.out.bm (by show 0 < n; omega)).2) OK.out.ns (OK.out.ms (by show 0 < n; omega)) hl.1 (hl.2.1 (by show 0 < n; omega)) (fun h => hl.2.2 h (by show 0 < n; omega)) hi hmid.node
        have HM : Hid (Mid (ctxT n m F T Q A' L C' N Z w2.heap.size Bm Bs) W wr k p arr (n - k) tk gp wq) := hmid
        have HK : Hid (RankInv n tk p (n - k) arr) := hrank
        have h1 : (k : Int) < (m : Int) := by omega
        have hsz : w2.heap.size + 1 + 1 + 1 < wr.heap.size := hmid.wnr.lt
        clear hmid hrank hl hPi hp0 hpn hc2
        go_wp2_with fail
        refine RF.out.mono ?_
        rintro e wr ⟨rfl, rfl⟩
        clear RF
        go_wp2_with fail
        refine RC.out.mono ?_
        rintro e w1 ⟨mb, mo, sg, rfl, d0, d1, d2, hi0, hip, htr, hpl, hst, hO⟩
        clear RC
        obtain rfl : sg = .agg #[(.slice (A' (arr (p + i))) (L (arr (p + i))) (C' (arr (p + i)))), (.int .i64 (N (arr (p + i))))] := htr rfl
        obtain ⟨hmid1, hgot1⟩ := HM.out.receive OK.out hi (by show p + (n - k) ≤ n; omega) d0 d1 d2 hi0 hip hst hO
        obtain ⟨x0, o0, rfl, i0, i1, i2⟩ := H0.out (arr (p + i)) hq
        have J0 := farA (O := (.cells #[.slice (A' (arr (p + i))) (L (arr (p + i))) (C' (arr (p + i))), .int .i64 (N (arr (p + i)))] 40)) ((hmid1.bel.cell (World.block_lt_of_cell? W _ i0)).trans i0)
        have J1 := farA (O := (.cells #[.slice (A' (arr (p + i))) (L (arr (p + i))) (C' (arr (p + i))), .int .i64 (N (arr (p + i)))] 40)) ((hmid1.bel.cell (World.block_lt_of_cell? W _ i1)).trans i1)
        have J2 := farA (O := (.cells #[.slice (A' (arr (p + i))) (L (arr (p + i))) (C' (arr (p + i))), .int .i64 (N (arr (p + i)))] 40)) ((hmid1.bel.cell (World.block_lt_of_cell? W _ i2)).trans i2)
        have D0 : (w1.alloc (.cells #[.slice (A' (arr (p + i))) (L (arr (p + i))) (C' (arr (p + i))), .int .i64 (N (arr (p + i)))] 40)).cell? ⟨mb, mo, none⟩ = some (.string (F (arr (p + i)))) := farA d0
        have D1 : (w1.alloc (.cells #[.slice (A' (arr (p + i))) (L (arr (p + i))) (C' (arr (p + i))), .int .i64 (N (arr (p + i)))] 40)).cell? ⟨mb, mo + 1, none⟩ = some (.string (T (arr (p + i)))) := farA d1
        have D2 : (w1.alloc (.cells #[.slice (A' (arr (p + i))) (L (arr (p + i))) (C' (arr (p + i))), .int .i64 (N (arr (p + i)))] 40)).cell? ⟨mb, mo + 2, none⟩ = some (.iface 3 (.int .i64 (Q (arr (p + i))))) := farA d2
        have U0 : (w1.alloc (.cells #[.slice (A' (arr (p + i))) (L (arr (p + i))) (C' (arr (p + i))), .int .i64 (N (arr (p + i)))] 40)).cell? ⟨w1.heap.size, 0, none⟩ = some (.slice (A' (arr (p + i))) (L (arr (p + i))) (C' (arr (p + i)))) := (cell_new2 rfl).1
        have U1 : (w1.alloc (.cells #[.slice (A' (arr (p + i))) (L (arr (p + i))) (C' (arr (p + i))), .int .i64 (N (arr (p + i)))] 40)).cell? ⟨w1.heap.size, 1, none⟩ = some (.int .i64 (N (arr (p + i)))) := (cell_new2 rfl).2
        have HM1 : Hid (Mid (ctxT n m F T Q A' L C' N Z w2.heap.size Bm Bs) W w1 k (if i = 0 then p + 1 else p) (shift arr p i (n - k)) (n - k - 1) tk gp wq) := hmid1
        have HG1 : Hid (Got (ctxT n m F T Q A' L C' N Z w2.heap.size Bm Bs) w1 (if i = 0 then p + 1 else p) (shift arr p i (n - k)) (mb, mo) (arr (p + i))) := hgot1
        clear hmid1 hgot1 hi0 hip htr hpl hst hO i0 i1 i2 hc d0 d1 d2 HM
        go_wp2
        go_region_held3 (fun w' => w'.cell? ⟨mb, mo, none⟩ = some (.string (F (arr (p + i)))) ∧ w'.cell? ⟨mb, mo + 1, none⟩ = some (.string (T (arr (p + i)))) ∧ w'.cell? ⟨mb, mo + 2, none⟩ = some (.iface 3 (.int .i64 (Q (arr (p + i))))) ∧ w'.cell? ⟨x0, o0 + arr (p + i) * 3, none⟩ = some (.string (F (arr (p + i)))) ∧ w'.cell? ⟨x0, o0 + arr (p + i) * 3 + 1, none⟩ = some (.string (T (arr (p + i)))) ∧ w'.cell? ⟨x0, o0 + arr (p + i) * 3 + 2, none⟩ = some (.int .i64 (Q (arr (p + i)))))
          (go_keep)
          (first | (go_at_call 13; refine (msgIs_any _ _ _ _).mono ?_; rintro e w3 ⟨rfl, hb3⟩; have E0 := later hb3 D0; have E1 := later hb3 D1; have E2 := later hb3 D2; have E3 := later hb3 J0; have E4 := later hb3 J1; have E5 := later hb3 J2; have V0 := later hb3 U0; have V1 := later hb3 U1))
        have hb13 : Below w1.heap.size w1 w3 := (((Below.refl _ _).alloc (Nat.le_refl _) _).drew).trans (hb3.mono (by simp))
        have HB13 : Hid (Below w1.heap.size w1 w3) := hb13
        have HM3 : Hid (Mid (ctxT n m F T Q A' L C' N Z w2.heap.size Bm Bs) W w3 k (if i = 0 then p + 1 else p) (shift arr p i (n - k)) (n - k - 1) tk gp wq) := HM1.out.below hb13
        clear hb13 hb3 E0 E1 E2 E3 E4 E5 D0 D1 D2 J0 J1 J2 U0 U1
        go_wp2_with fail
        obtain ⟨x1, o1, rfl, k0, k1, hIA, hnA⟩ := H1.out (arr (p + i)) hq
        have K0 := (HM3.out.bel.cell (World.block_lt_of_cell? W _ k0)).trans k0
        have K1 := (HM3.out.bel.cell (World.block_lt_of_cell? W _ k1)).trans k1
        have HIA : Hid (IntsAt w3.drew (A (arr (p + i))) (L (arr (p + i))) (Z (arr (p + i)))) := hIA.below HM3.out.bel.drew (Nat.le_refl _)
        have HIB : Hid (IntsAt w3.drew (A' (arr (p + i))) (L (arr (p + i))) (Z (arr (p + i)))) := (HM3.out.clk rfl _ hq).at
        have hLq := HL.out _ hq
        clear k0 k1 hIA hnA
        go_region_held3 (fun w' => w'.cell? ⟨w1.heap.size, 0, none⟩ = some (.slice (A' (arr (p + i))) (L (arr (p + i))) (C' (arr (p + i)))) ∧ w'.cell? ⟨w1.heap.size, 1, none⟩ = some (.int .i64 (N (arr (p + i)))) ∧ w'.cell? ⟨x1, o1 + arr (p + i) * 2, none⟩ = some (.slice (A (arr (p + i))) (L (arr (p + i))) (C (arr (p + i)))) ∧ w'.cell? ⟨x1, o1 + arr (p + i) * 2 + 1, none⟩ = some (.int .i64 (N (arr (p + i)))))
          (go_keep)
          (first | (go_at_call 14; refine (stampIs_any (A' (arr (p + i))) (A (arr (p + i))) (L (arr (p + i))) (C' (arr (p + i))) (C (arr (p + i))) (N (arr (p + i))) (Z (arr (p + i))) _ hLq HIB.out HIA.out).mono ?_; rintro e w4 ⟨rfl, hb4'⟩; have E0 := later hb4' V0; have E1 := later hb4' V1; have E2 := later hb4' K0; have E3 := later hb4' K1))
        have hb4 : Below w3.heap.size w3 w4 := ((Below.refl _ w3).drew).trans hb4'
        clear E0 E1 E2 E3 K0 K1 hb4'
        have hb14 : Below w1.heap.size w1 w4 := HB13.out.trans (hb4.mono HB13.out.size)
        have HM4 : Hid (Mid (ctxT n m F T Q A' L C' N Z w2.heap.size Bm Bs) W w4 k (if i = 0 then p + 1 else p) (shift arr p i (n - k)) (n - k - 1) tk gp wq) := HM1.out.below hb14
        have HG4 : Hid (Got (ctxT n m F T Q A' L C' N Z w2.heap.size Bm Bs) w4 (if i = 0 then p + 1 else p) (shift arr p i (n - k)) (mb, mo) (arr (p + i))) := HG1.out.of_block (fun b _ hlt => hb14.block b hlt)
        have t0 : w4.cell? ⟨w2.heap.size + 1, arr (p + i), none⟩ = some (.bool (tk (arr (p + i)))) := HM4.out.tkr.cell hq
        have t1 := HM4.out.gtr.cell hlt
        have t2 := HM4.out.wnr.cell hlt
        have t1' : w4.cell? ⟨w2.heap.size + 1 + 1, k, none⟩ = some (.pointer none) := t1.trans (by simp)
        have t2' : w4.cell? ⟨w2.heap.size + 1 + 1 + 1, k, none⟩ = some (.int .i64 0) := t2.trans (by simp)
        have f0 : w4.frozen? ⟨w2.heap.size + 1, arr (p + i), none⟩ = false := HM4.out.tkr.frozen _
        have f1 : w4.frozen? ⟨w2.heap.size + 1 + 1, k, none⟩ = false := HM4.out.gtr.frozen _
        have f2 : w4.frozen? ⟨w2.heap.size + 1 + 1 + 1, k, none⟩ = false := HM4.out.wnr.frozen _
        clear hb14 hb4 t1 t2 V0 V1
        go_wp2_with fail
        go_roundw
        case rel => exact ⟨k + 1, by omega, by go_num, LoopInv.next OK.out hlt hi HK.out hpk HM4.out HG4.out⟩
        case measure => simp [intOf]; omega
      · obtain rfl : m = k := by omega
        have hmn : m ≤ n := by
          rcases Nat.eq_zero_or_pos m with e | e
          · omega
          · have := HP.out (m - 1) (by omega); omega
        have HM : Hid (Mid (ctxT n m F T Q A' L C' N Z w2.heap.size Bm Bs) W wr m p arr (n - m) tk gp wq) := hmid
        have HK : Hid (RankInv n tk p (n - m) arr) := hrank
        clear hmid hrank hlt hk
        go_wp2_with fail
        -- EVERY POINTER STILL READS ITS MESSAGE
        go_loopw [18] (fun i wx => ∃ k : Nat, k ≤ m ∧ i = .int .i64 k ∧ Mid (ctxT n m F T Q A' L C' N Z w2.heap.size Bm Bs) W wx m p arr (n - m) tk gp wq) (fun i _ => m - (intOf i).toNat)
        case atStart => exact ⟨0, Nat.zero_le _, rfl, HM.out⟩
        case round =>
          clear HM
          obtain ⟨k, hk, rfl, hmx⟩ := hrel
          have HMx : Hid (Mid (ctxT n m F T Q A' L C' N Z w2.heap.size Bm Bs) W wr m p arr (n - m) tk gp wq) := hmx
          clear hmx
          by_cases hlt : k < m
          · have h1 : (k : Int) < (m : Int) := by omega
            have hqk : wq k < n := HMx.out.wlt k hlt
            have g0 : wr.cell? ⟨w2.heap.size + 1 + 1, k, none⟩ = some (.pointer (some ⟨(gp k).1, (gp k).2, none⟩)) := (HMx.out.gtr.cell hlt).trans (by simp [hlt])
            have g1 : wr.cell? ⟨w2.heap.size + 1 + 1 + 1, k, none⟩ = some (.int .i64 (wq k)) := (HMx.out.wnr.cell hlt).trans (by simp [hlt])
            have hs := HMx.out.still hlt
            have s0 : wr.cell? ⟨(gp k).1, (gp k).2, none⟩ = some (.string (F (wq k))) := hs.c0
            have s1 : wr.cell? ⟨(gp k).1, (gp k).2 + 1, none⟩ = some (.string (T (wq k))) := hs.c1
            have s2 : wr.cell? ⟨(gp k).1, (gp k).2 + 2, none⟩ = some (.iface 3 (.int .i64 (Q (wq k)))) := hs.c2
            obtain ⟨x0, o0, rfl, i0, i1, i2⟩ := H0.out (wq k) hqk
            have j0 := (HMx.out.bel.cell (World.block_lt_of_cell? W _ i0)).trans i0
            have j1 := (HMx.out.bel.cell (World.block_lt_of_cell? W _ i1)).trans i1
            have j2 := (HMx.out.bel.cell (World.block_lt_of_cell? W _ i2)).trans i2
            clear i0 i1 i2 hs
            generalize (gp k).1 = mb at *
            generalize (gp k).2 = mo at *
            generalize wq k = q at *
            go_wp2
            go_region_held3 (fun w' => w'.cell? ⟨w2.heap.size + 1 + 1, k, none⟩ = some (.pointer (some ⟨mb, mo, none⟩)) ∧ w'.cell? ⟨mb, mo, none⟩ = some (.string (F q)) ∧ w'.cell? ⟨mb, mo + 1, none⟩ = some (.string (T q)) ∧ w'.cell? ⟨mb, mo + 2, none⟩ = some (.iface 3 (.int .i64 (Q q))) ∧ w'.cell? ⟨x0, o0 + q * 3, none⟩ = some (.string (F q)) ∧ w'.cell? ⟨x0, o0 + q * 3 + 1, none⟩ = some (.string (T q)) ∧ w'.cell? ⟨x0, o0 + q * 3 + 2, none⟩ = some (.int .i64 (Q q)))
              (go_keep)
              (first | (go_at_call 13; refine (msgIs_any _ _ _ _).mono ?_; rintro e w3 ⟨rfl, hb3⟩; have E0 := later hb3 s0; have E1 := later hb3 s1; have E2 := later hb3 s2; have E3 := later hb3 j0; have E4 := later hb3 j1; have E5 := later hb3 j2; have V0 := later hb3 g0))
            have HM3 : Hid (Mid (ctxT n m F T Q A' L C' N Z w2.heap.size Bm Bs) W w3 m p arr (n - m) tk gp wq) := HMx.out.below (((Below.refl _ wr).drew).trans hb3)
            clear hb3 E0 E1 E2 E3 E4 E5 V0 s0 s1 s2 j0 j1 j2
            go_wp2_with fail
            go_roundw
            case rel => exact ⟨k + 1, by omega, by go_num, HM3.out⟩
            case measure => simp [intOf]; omega
          · obtain rfl : m = k := by omega
            clear hlt hk
            obtain ⟨iv, sv, hN, hIv, hMm, hTs, hUs⟩ := HMx.out.node
            obtain ⟨ao, cap, rfl, hao⟩ := hIv
            obtain ⟨⟨sa, sc, rfl, hsa⟩, hSs⟩ := hTs rfl
            have n3 : wr.cell? ⟨w2.heap.size, 3, none⟩ = some (.slice ao (n - m) cap) := hN.cell (i := 3) (by omega)
            have n4 : wr.cell? ⟨w2.heap.size, 4, none⟩ = some (.slice sa (n - m) sc) := hN.cell (i := 4) (by omega)
            have HMm : Hid (0 < n → wr.rowIs Bm 45 (n * 3) (mcell F T Q arr)) := hMm
            have HAo : Hid (0 < n - m → ao = some ⟨Bm, p * 3, none⟩ ∧ p + cap = n ∧ n - m ≤ cap) := hao
            have HSs : Hid (0 < n → wr.rowIs Bs 40 (n * 2) (scell A' L C' N arr)) := hSs
            have HSa : Hid (0 < n - m → sa = some ⟨Bs, p * 2, none⟩ ∧ p + sc = n ∧ n - m ≤ sc) := hsa
            clear hSs hsa
            clear hN hMm hao hTs hUs
            have R3 : Hid (Calls Try.prog 15 #[.pointer (some ⟨w2.heap.size, 0, none⟩)] wr fun e w' => e = .returned (.slice ao (n - m) cap) ∧ w' = wr) := nodeInbox_any _ _ _ n3
            have R4 : Hid (Calls Try.prog 16 #[.pointer (some ⟨w2.heap.size, 0, none⟩)] wr fun e w' => e = .returned (.slice sa (n - m) sc) ∧ w' = wr) := nodeStamps_any _ _ _ n4
            clear n3 n4
            go_wp2_with fail
            refine R3.out.mono ?_
            rintro e wr ⟨rfl, rfl⟩
            go_wp2_with fail
            refine R4.out.mono ?_
            rintro e wr ⟨rfl, rfl⟩
            clear R3 R4
            have hnm : (((n - m : Nat) : Int) != (n : Int) - (m : Int)) = false := by
              rw [bne_eq_false_iff_eq]; omega
            go_wp2_with fail
            -- WHAT IS LEFT
            go_loopw [22, 23] (fun jv qv wx => ∃ q : Nat, q ≤ n ∧ qv = .int .i64 q ∧ jv = .int .i64 (cnt tk q) ∧ Mid (ctxT n m F T Q A' L C' N Z w2.heap.size Bm Bs) W wx m p arr (n - m) tk gp wq) (fun _ qv _ => n - (intOf qv).toNat)
            case atStart => exact ⟨0, Nat.zero_le _, rfl, rfl, HMx.out⟩
            case round =>
              clear HMx HMm HSs
              obtain ⟨q, hqn, rfl, rfl, hmx⟩ := hrel
              have HMx : Hid (Mid (ctxT n m F T Q A' L C' N Z w2.heap.size Bm Bs) W wr m p arr (n - m) tk gp wq) := hmx
              clear hmx
              have hcq := cnt_le tk q
              by_cases hlt : q < n
              · have h1 : (q : Int) < (n : Int) := by omega
                have tc : wr.cell? ⟨w2.heap.size + 1, q, none⟩ = some (.bool (tk q)) := HMx.out.tkr.cell hlt
                by_cases ht : tk q = true
                · rw [ht] at tc
                  have HC : Hid (cnt tk (q + 1) = cnt tk q) := by show _ = _; simp [cnt, ht]
                  clear ht
                  go_wp2_with fail
                  go_roundw
                  case rel => exact ⟨q + 1, by omega, by go_num, by rw [HC.out], HMx.out⟩
                  case measure => simp [intOf]; omega
                · have ht' : tk q = false := by simpa using ht
                  rw [ht'] at tc
                  obtain ⟨hfl, hfind⟩ := HK.out.find hlt ht'
                  obtain ⟨rfl, hcap, hcap2⟩ := HAo.out (by omega)
                  obtain ⟨rfl, hsc, hsc2⟩ := HSa.out (by omega)
                  have HC : Hid (cnt tk (q + 1) = cnt tk q + 1) := cnt_succ_free ht'
                  clear ht
                  obtain ⟨iv, sv, hN, hIv, hMm, hTs, hUs⟩ := HMx.out.node
                  have hrow : wr.rowIs Bm 45 (n * 3) (mcell F T Q arr) := hMm (by show 0 < n; omega)
                  have m0 : wr.cell? ⟨Bm, p * 3 + cnt tk q * 3, none⟩ = some (.string (F q)) := by
                    rw [show p * 3 + cnt tk q * 3 = (p + cnt tk q) * 3 by omega, hrow.cell (by omega), mcell0, hfind]
                  have m1 : wr.cell? ⟨Bm, p * 3 + cnt tk q * 3 + 1, none⟩ = some (.string (T q)) := by
                    rw [show p * 3 + cnt tk q * 3 = (p + cnt tk q) * 3 by omega, hrow.cell (by omega), mcell1, hfind]
                  have m2 : wr.cell? ⟨Bm, p * 3 + cnt tk q * 3 + 2, none⟩ = some (.iface 3 (.int .i64 (Q q))) := by
                    rw [show p * 3 + cnt tk q * 3 = (p + cnt tk q) * 3 by omega, hrow.cell (by omega), mcell2, hfind]
                  obtain ⟨x0, o0, rfl, i0, i1, i2⟩ := H0.out q hlt
                  have j0 := (HMx.out.bel.cell (World.block_lt_of_cell? W _ i0)).trans i0
                  have j1 := (HMx.out.bel.cell (World.block_lt_of_cell? W _ i1)).trans i1
                  have j2 := (HMx.out.bel.cell (World.block_lt_of_cell? W _ i2)).trans i2
                  have hfl1 : (cnt tk q : Int) < ((n - m : Nat) : Int) := by omega
                  have hsrow : wr.rowIs Bs 40 (n * 2) (scell A' L C' N arr) := (hTs rfl).2 (by show 0 < n; omega)
                  have s0 : wr.cell? ⟨Bs, p * 2 + cnt tk q * 2, none⟩ = some (.slice (A' q) (L q) (C' q)) := by
                    rw [show p * 2 + cnt tk q * 2 = (p + cnt tk q) * 2 by omega, hsrow.cell (by omega), scell0, hfind]
                  have s1 : wr.cell? ⟨Bs, p * 2 + cnt tk q * 2 + 1, none⟩ = some (.int .i64 (N q)) := by
                    rw [show p * 2 + cnt tk q * 2 = (p + cnt tk q) * 2 by omega, hsrow.cell (by omega), scell1, hfind]
                  obtain ⟨x1, o1, rfl, k0, k1, hIA, hnA⟩ := H1.out q hlt
                  have K0 := (HMx.out.bel.cell (World.block_lt_of_cell? W _ k0)).trans k0
                  have K1 := (HMx.out.bel.cell (World.block_lt_of_cell? W _ k1)).trans k1
                  have hLq := HL.out _ hlt
                  have HIA0 : Hid (IntsAt W (A q) (L q) (Z q)) := hIA
                  clear k0 k1 hIA hnA hsrow
                  clear i0 i1 i2 hN hIv hMm hTs hUs hrow hfind ht'
                  generalize cnt tk q = cq at *
                  go_wp2
                  go_region_held3 (fun w' => w'.cell? ⟨Bm, p * 3 + cq * 3, none⟩ = some (.string (F q)) ∧ w'.cell? ⟨Bm, p * 3 + cq * 3 + 1, none⟩ = some (.string (T q)) ∧ w'.cell? ⟨Bm, p * 3 + cq * 3 + 2, none⟩ = some (.iface 3 (.int .i64 (Q q))) ∧ w'.cell? ⟨x0, o0 + q * 3, none⟩ = some (.string (F q)) ∧ w'.cell? ⟨x0, o0 + q * 3 + 1, none⟩ = some (.string (T q)) ∧ w'.cell? ⟨x0, o0 + q * 3 + 2, none⟩ = some (.int .i64 (Q q)))
                    (go_keep)
                    (first | (go_at_call 13; refine (msgIs_any _ _ _ _).mono ?_; rintro e w3 ⟨rfl, hb3⟩; have E0 := later hb3 m0; have E1 := later hb3 m1; have E2 := later hb3 m2; have E3 := later hb3 j0; have E4 := later hb3 j1; have E5 := later hb3 j2; have W0 := later hb3 s0; have W1 := later hb3 s1; have W2 := later hb3 K0; have W3 := later hb3 K1))
                  have HM3 : Hid (Mid (ctxT n m F T Q A' L C' N Z w2.heap.size Bm Bs) W w3 m p arr (n - m) tk gp wq) := HMx.out.below (((Below.refl _ wr).drew).trans hb3)
                  clear hb3 E0 E1 E2 E3 E4 E5 m0 m1 m2 j0 j1 j2
                  go_wp2_with fail
                  have HIA : Hid (IntsAt w3.drew (A q) (L q) (Z q)) := HIA0.out.below HM3.out.bel.drew (Nat.le_refl _)
                  have HIB : Hid (IntsAt w3.drew (A' q) (L q) (Z q)) := (HM3.out.clk rfl q hlt).at
                  go_region_held3 (fun w' => w'.cell? ⟨Bs, p * 2 + cq * 2, none⟩ = some (.slice (A' q) (L q) (C' q)) ∧ w'.cell? ⟨Bs, p * 2 + cq * 2 + 1, none⟩ = some (.int .i64 (N q)) ∧ w'.cell? ⟨x1, o1 + q * 2, none⟩ = some (.slice (A q) (L q) (C q)) ∧ w'.cell? ⟨x1, o1 + q * 2 + 1, none⟩ = some (.int .i64 (N q)))
                    (go_keep)
                    (first | (go_at_call 14; refine (stampIs_any (A' q) (A q) (L q) (C' q) (C q) (N q) (Z q) _ hLq HIB.out HIA.out).mono ?_; rintro e w4 ⟨rfl, hb4⟩; have E0 := later hb4 W0; have E1 := later hb4 W1; have E2 := later hb4 W2; have E3 := later hb4 W3))
                  have HM4 : Hid (Mid (ctxT n m F T Q A' L C' N Z w2.heap.size Bm Bs) W w4 m p arr (n - m) tk gp wq) := HM3.out.below (((Below.refl _ w3).drew).trans hb4)
                  clear hb4 E0 E1 E2 E3 W0 W1 W2 W3
                  go_wp2_with fail
                  go_roundw
                  case rel => exact ⟨q + 1, by omega, by go_num, by rw [HC.out]; go_num, HM4.out⟩
                  case measure => simp [intOf]; omega
              · have HBe : Hid (Below W.heap.size W wr) := HMx.out.bel
                clear HMx
                go_wp2_with fail
                go_ret
                exact ⟨rfl, HBe.out⟩
end Go.Proofs.Qxb6608660a

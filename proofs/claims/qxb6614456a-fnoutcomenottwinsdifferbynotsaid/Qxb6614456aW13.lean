/- My own work on the program: ZZoutcome walked. -/
import Derived.Test.Qxb6614456aW12
import Derived.Deep.CutRange
import Derived.Deep.RegionLaw
import Derived.Deep.RegionLawGrows
namespace Go.Proofs.Qxb6614456a
open Go.RowKit
set_option linter.unusedVariables false
set_option linter.unusedSimpArgs false

theorem Try.info3 : (Try.prog.info? 3).map (fun i => (i.zero, i.size, i.bytes)) = some (some (.int .i64 0), 1, 8) := by kernel_rfl
/-- The five stores of an outcome, read again. -/
theorem out_reads {w : World} {B : Nat} {f : Nat → Value} (h : w.rowIs B 43 5 f) (v0 v1 v2 v3 v4 : Value) :
    (w.setCell ⟨B, 0, none⟩ v0).cell? ⟨B, 0, none⟩ = some v0 ∧ ((w.setCell ⟨B, 0, none⟩ v0).setCell ⟨B, 1, none⟩ v1).cell? ⟨B, 1, none⟩ = some v1 ∧ (((w.setCell ⟨B, 0, none⟩ v0).setCell ⟨B, 1, none⟩ v1).setCell ⟨B, 2, none⟩ v2).cell? ⟨B, 2, none⟩ = some v2 ∧
    ((((w.setCell ⟨B, 0, none⟩ v0).setCell ⟨B, 1, none⟩ v1).setCell ⟨B, 2, none⟩ v2).setCell ⟨B, 3, none⟩ v3).cell? ⟨B, 3, none⟩ = some v3 ∧ (((((w.setCell ⟨B, 0, none⟩ v0).setCell ⟨B, 1, none⟩ v1).setCell ⟨B, 2, none⟩ v2).setCell ⟨B, 3, none⟩ v3).setCell ⟨B, 4, none⟩ v4).cell? ⟨B, 4, none⟩ = some v4 := by
  have t0 := h.set 0 v0
  have t1 := t0.set 1 v1
  have t2 := t1.set 2 v2
  have t3 := t2.set 3 v3
  have t4 := t3.set 4 v4
  exact ⟨(t0.cell (i := 0) (by omega)).trans (by simp), (t1.cell (i := 1) (by omega)).trans (by simp), (t2.cell (i := 2) (by omega)).trans (by simp), (t3.cell (i := 3) (by omega)).trans (by simp), (t4.cell (i := 4) (by omega)).trans (by simp)⟩
/-- An outcome that the callee made in its own memory, stored into the result's cells at block w.heap.size. -/
theorem OutAll.stored {w wx w1 : World} {app : Bool} {el op key : ByteArray} {l : Nat} {S : Nat → ByteArray} {va : Option Addr} {vc : Nat} (hb : Below w.heap.size w wx) (hlt : w.heap.size < wx.heap.size)
    (hs : StrsAt w1 va l S) (hx : ∀ x, va = some x → wx.heap.size ≤ x.block) (hb1 : Below wx.heap.size wx w1) :
    OutAll w app el op key l S (.returned (outV app el op key (.slice va l vc))) (((((w1.setCell ⟨w.heap.size, 0, none⟩ (.bool app)).setCell ⟨w.heap.size, 1, none⟩ (.string el)).setCell ⟨w.heap.size, 2, none⟩ (.string op)).setCell ⟨w.heap.size, 3, none⟩ (.string key)).setCell ⟨w.heap.size, 4, none⟩ (.slice va l vc)) :=
  ⟨va, vc, rfl, (((((hs.set hx (p := ⟨w.heap.size, 0, none⟩) hlt _).set hx (p := ⟨w.heap.size, 1, none⟩) hlt _).set hx (p := ⟨w.heap.size, 2, none⟩) hlt _).set hx (p := ⟨w.heap.size, 3, none⟩) hlt _).set hx (p := ⟨w.heap.size, 4, none⟩) hlt _), fun x e => by have := hx x e; omega,
    ((((((hb.trans (hb1.mono (by omega))).setCell (p := ⟨w.heap.size, 0, none⟩) (Nat.le_refl _) _).setCell (p := ⟨w.heap.size, 1, none⟩) (Nat.le_refl _) _).setCell (p := ⟨w.heap.size, 2, none⟩) (Nat.le_refl _) _).setCell (p := ⟨w.heap.size, 3, none⟩) (Nat.le_refl _) _).setCell (p := ⟨w.heap.size, 4, none⟩) (Nat.le_refl _) _)⟩

set_option maxRecDepth 100000 in
set_option maxHeartbeats 4000000 in
theorem zzOutcome_any (ms at' : Int) (p q r : Bool) (aO aK aT aI aF aG aX : Option Addr) (n m cO cK cT cI cF cG cX : Nat) (O K T : Nat → ByteArray) (I FI : Nat → Int) (FT : Nat → ByteArray) (A : Nat → Option Addr) (L C : Nat → Nat) (X : Nat → Nat → ByteArray) (w : World) (hn : n ≤ 1048576) (hm : m ≤ 1048576)
   (hO : StrsAt w aO n O) (hK : StrsAt w aK n K) (hT : StrsAt w aT n T) (hI : IntsAt w aI n I) (hF : IntsAt w aF m FI) (hG : StrsAt w aG m FT) (hX : TextsAt w aX m A L C X) (hFI : ∀ j, j < m → 0 ≤ FI j ∧ FI j < 49) (hFT : ∀ j, j < m → (FT j).size ≤ maxLen) (app : Bool) (el op key : ByteArray) (l : Nat) (S : Nat → ByteArray) (hs : OutSpec ms at' p q r n m O K T I FI FT L X app el op key l S) :
    Calls Try.prog 26 #[.int .u8 ms, .int .i64 at', .bool p, .bool q, .bool r, .slice aO n cO, .slice aK n cK, .slice aT n cT, .slice aI n cI, .slice aF m cF, .slice aG m cG, .slice aX m cX] w (OutAll w app el op key l S) := by
  have HSP : Hid (OutSpec ms at' p q r n m O K T I FI FT L X app el op key l S) := hs
  clear hs
  have hmk := fun wx => run_make_rows (P := Try.prog) 81 91 _ 10 128 Try.underlying81 Try.info91 .i64 .i64 n (by omega) (by omega) wx
  have HIN : Hid (StrsAt w aO n O ∧ StrsAt w aK n K ∧ StrsAt w aT n T ∧ IntsAt w aI n I) := ⟨hO, hK, hT, hI⟩
  have HIN2 : Hid (IntsAt w aF m FI ∧ StrsAt w aG m FT ∧ TextsAt w aX m A L C X ∧ (∀ j, j < m → 0 ≤ FI j ∧ FI j < 49) ∧ ∀ j, j < m → (FT j).size ≤ maxLen) := ⟨hF, hG, hX, hFI, hFT⟩
  clear hO hK hT hI hF hG hX hFI hFT
  obtain ⟨W2, hW2⟩ : ∃ W2, W2 = ((w.alloc (.cells #[.bool false, .string eS, .string eS, .string eS, .slice none 0 0] 43)).alloc (.cells #[.string eS, .int .i64 0, .slice none 0 0, .bool p, .bool false, .int .i64 0, .slice none 0 0, .bool q, .bool false, .int .i64 0, .int .u64 0, .slice none 0 0, .bool r, .bool false, .int .i64 0, .slice (some ⟨w.heap.size + 1 + 1, 0, none⟩) n n, .bool false] 83)).alloc (.cells (madeCells #[.pointer none, .bool false, .bool false, .int .i64 0, .string eS, .slice none 0 0, .slice none 0 0, .bool false, .string eS, .string eS] (n * 10)) 91) := ⟨_, rfl⟩
  have HW2 : Hid (Below w.heap.size w W2 ∧ W2.heap.size = w.heap.size + 3) := by
    rw [hW2]
    exact ⟨(((Below.refl _ _).alloc (Nat.le_refl _) _).alloc (by simp) _).alloc (by simp; omega) _, by simp⟩
  have HRC : Hid (∃ f, W2.rowIs (w.heap.size + 2) 91 (n * 10) f) := by
    have := rowIs_madeMany ((w.alloc (.cells #[.bool false, .string eS, .string eS, .string eS, .slice none 0 0] 43)).alloc (.cells #[.string eS, .int .i64 0, .slice none 0 0, .bool p, .bool false, .int .i64 0, .slice none 0 0, .bool q, .bool false, .int .i64 0, .int .u64 0, .slice none 0 0, .bool r, .bool false, .int .i64 0, .slice (some ⟨w.heap.size + 1 + 1, 0, none⟩) n n, .bool false] 83)) (#[.pointer none, .bool false, .bool false, .int .i64 0, .string eS, .slice none 0 0, .slice none 0 0, .bool false, .string eS, .string eS]) (n * 10) 91
    rw [← hW2] at this
    obtain ⟨f, hf⟩ := this
    exact ⟨f, by simpa using hf⟩
  have HR0 : Hid (W2.rowIs w.heap.size 43 5 (fun i => if i = 0 then .bool false else if i = 4 then .slice none 0 0 else .string eS)) := by
    rw [hW2]
    exact ((World.rowIs_alloc w #[.bool false, .string eS, .string eS, .string eS, .slice none 0 0] 43 (fun i => if i = 0 then .bool false else if i = 4 then .slice none 0 0 else .string eS) (fun i hi => by
      rcases i with _ | _ | _ | _ | _ | i
      all_goals first
        | rfl
        | (simp at hi; omega))).alloc _).alloc _
  have HST : Hid (W2.cell? ⟨w.heap.size + 1, 3, none⟩ = some (.bool p) ∧ W2.cell? ⟨w.heap.size + 1, 7, none⟩ = some (.bool q) ∧ W2.cell? ⟨w.heap.size + 1, 12, none⟩ = some (.bool r) ∧ W2.cell? ⟨w.heap.size + 1, 15, none⟩ = some (.slice (some ⟨w.heap.size + 2, 0, none⟩) n n)) := by
    have hs := (rowIs_lit (w.alloc (.cells #[.bool false, .string eS, .string eS, .string eS, .slice none 0 0] 43)) #[.string eS, .int .i64 0, .slice none 0 0, .bool p, .bool false, .int .i64 0, .slice none 0 0, .bool q, .bool false, .int .i64 0, .int .u64 0, .slice none 0 0, .bool r, .bool false, .int .i64 0, .slice (some ⟨w.heap.size + 1 + 1, 0, none⟩) n n, .bool false] 83).alloc (.cells (madeCells #[.pointer none, .bool false, .bool false, .int .i64 0, .string eS, .slice none 0 0, .slice none 0 0, .bool false, .string eS, .string eS] (n * 10)) 91)
    rw [← hW2, show (w.alloc (.cells #[.bool false, .string eS, .string eS, .string eS, .slice none 0 0] 43)).heap.size = w.heap.size + 1 from by simp] at hs
    exact ⟨hs.cell (i := 3) (by simp), hs.cell (i := 7) (by simp), hs.cell (i := 12) (by simp), hs.cell (i := 15) (by simp)⟩
  go_enter Try.func26, Try.ntmps26
  go_wp2_with fail
  rw [← hW2]
  clear hW2 hmk
  go_loopw [57] (fun i wr => ∃ k : Nat, k ≤ n ∧ i = .int .i64 k ∧ (∃ f, wr.rowIs (w.heap.size + 2) 91 (n * 10) f ∧ CondsIn I T O K k f) ∧ Below (w.heap.size + 2) W2 wr) (fun i _ => n - (intOf i).toNat)
  case atStart =>
    obtain ⟨f, hf⟩ := HRC.out
    exact ⟨0, Nat.zero_le _, rfl, ⟨f, hf, fun j hj => absurd hj (by omega)⟩, Below.refl _ _⟩
  case round =>
    obtain ⟨k, hk, rfl, ⟨f, hrow, hf⟩, hbel⟩ := hrel
    have hbw : Below w.heap.size w wr := HW2.out.1.trans (hbel.mono (by omega))
    have HF : Hid (CondsIn I T O K k f) := hf
    have HB : Hid (Below (w.heap.size + 2) W2 wr) := hbel
    have HR : Hid (wr.rowIs (w.heap.size + 2) 91 (n * 10) f) := hrow
    have HBW : Hid (Below w.heap.size w wr) := hbw
    by_cases hlt : k < n
    · obtain ⟨x1, o1, rfl, c1⟩ := HIN.out.1.below hbw (Nat.le_refl _) k hlt
      obtain ⟨x2, o2, rfl, c2⟩ := HIN.out.2.1.below hbw (Nat.le_refl _) k hlt
      obtain ⟨x3, o3, rfl, c3⟩ := HIN.out.2.2.1.below hbw (Nat.le_refl _) k hlt
      obtain ⟨x4, o4, rfl, c4⟩ := HIN.out.2.2.2.below hbw (Nat.le_refl _) k hlt
      have g15 : wr.cell? ⟨w.heap.size + 1, 15, none⟩ = some (.slice (some ⟨w.heap.size + 2, 0, none⟩) n n) := (hbel.cell (by simp)).trans HST.out.2.2.2
      have d0 := hrow.cell (i := k * 10) (by omega)
      have e0 := hrow.frozen (k * 10)
      have d1 := hrow.cell (i := k * 10 + 1) (by omega)
      have e1 := hrow.frozen (k * 10 + 1)
      have d2 := hrow.cell (i := k * 10 + 2) (by omega)
      have e2 := hrow.frozen (k * 10 + 2)
      have d3 := hrow.cell (i := k * 10 + 3) (by omega)
      have e3 := hrow.frozen (k * 10 + 3)
      have d4 := hrow.cell (i := k * 10 + 4) (by omega)
      have e4 := hrow.frozen (k * 10 + 4)
      have d5 := hrow.cell (i := k * 10 + 5) (by omega)
      have e5 := hrow.frozen (k * 10 + 5)
      have d6 := hrow.cell (i := k * 10 + 6) (by omega)
      have e6 := hrow.frozen (k * 10 + 6)
      have d7 := hrow.cell (i := k * 10 + 7) (by omega)
      have e7 := hrow.frozen (k * 10 + 7)
      have d8 := hrow.cell (i := k * 10 + 8) (by omega)
      have e8 := hrow.frozen (k * 10 + 8)
      have d9 := hrow.cell (i := k * 10 + 9) (by omega)
      have e9 := hrow.frozen (k * 10 + 9)
      clear hf hrow hbel hbw
      go_wp2_with fail
      go_region
      go_wp2_with fail
      go_roundw
      case rel => exact ⟨k + 1, by omega, by go_num, cond_step HR.out HF.out rfl rfl rfl rfl, cond_below HB.out (Nat.le_refl _)⟩
      case measure => simp [intOf]; omega
    · obtain rfl : n = k := by omega
      clear hf hrow hbel hbw
      obtain ⟨V1, hV1⟩ : ∃ V1, V1 = wr := ⟨_, rfl⟩
      subst hV1
      have hmm := run_makeMap (P := Try.prog) 93 V1
      go_wp2_with fail
      go_loopw [90] (fun i wx => ∃ (k : Nat) (bl : Nat → Nat) (g : Value) (gn : Nat) (gx : List Value), k ≤ m ∧ i = .int .i64 k ∧ FactsIn V1 wx V1.heap.size FI FT L X k bl g gn gx) (fun i _ => m - (intOf i).toNat)
      case atStart => exact ⟨0, _, _, _, _, Nat.zero_le _, rfl, facts_start V1 FI FT L X⟩
      case round =>
        obtain ⟨k, bl, g, gn, gx, hk2, rfl, hfi⟩ := hrel
        clear hmm
        obtain ⟨wx, hwx⟩ : ∃ wx, wx = wr := ⟨_, rfl⟩
        subst hwx
        have HI : Hid (FactsIn V1 wx V1.heap.size FI FT L X k bl g gn gx) := hfi
        have hbx : Below w.heap.size w wx := HBW.out.trans (hfi.bel.mono HBW.out.size)
        clear hfi
        by_cases hlt2 : k < m
        · obtain ⟨x1, o1, rfl, t1, hS, hL⟩ := HIN2.out.2.2.1.below hbx (Nat.le_refl _) k hlt2
          obtain ⟨x2, o2, rfl, t2⟩ := HIN2.out.1.below hbx (Nat.le_refl _) k hlt2
          obtain ⟨x3, o3, rfl, t3⟩ := HIN2.out.2.1.below hbx (Nat.le_refl _) k hlt2
          have hf49 := HIN2.out.2.2.2.1 k hlt2
          have hfs := HIN2.out.2.2.2.2 k hlt2
          have HSS : Hid (StrsAt wx (A k) (L k) (X k)) := hS
          have l1 : x1 < wx.heap.size := World.block_lt_of_cell? wx _ t1
          have l2 : x2 < wx.heap.size := World.block_lt_of_cell? wx _ t2
          have l3 : x3 < wx.heap.size := World.block_lt_of_cell? wx _ t3
          have hmk := run_make_rows (P := Try.prog) 89 112 _ 14 120 Try.underlying89 Try.info112 .i64 .i64 (L k) (by omega) (by omega) wx
          have HRM := rowIs_madeMany wx (Value.agg #[.string { data := #[] }, .bool false, .string { data := #[] }, .int .i64 0, .int .u64 0, .int .i64 0, .pointer none, .bool false, .int .u64 0, .int .u64 0, .pointer none, .int .u8 0, .bool false, .bool false]).cells (L k * 14) 112
          have HRM2 : Hid (∃ f, (wx.alloc (.cells (madeCells (Value.agg #[.string { data := #[] }, .bool false, .string { data := #[] }, .int .i64 0, .int .u64 0, .int .i64 0, .pointer none, .bool false, .int .u64 0, .int .u64 0, .pointer none, .int .u8 0, .bool false, .bool false]).cells (L k * 14)) 112)).rowIs wx.heap.size 112 (L k * 14) f) := HRM
          clear hS hbx HRM
          go_wp2_with fail
          go_loopw [104] (fun i wy => ∃ (q : Nat) (f : Nat → Value), q ≤ L k ∧ i = .int .i64 q ∧ wy.rowIs wx.heap.size 112 (L k * 14) f ∧ (∀ c, c < q * 14 → f c = valF (X k) c) ∧ Below wx.heap.size wx wy) (fun i _ => L k - (intOf i).toNat)
          case atStart =>
            obtain ⟨f, hf⟩ := HRM2.out
            exact ⟨0, f, Nat.zero_le _, rfl, hf, fun c hc => absurd hc (by omega), (Below.refl _ _).alloc (Nat.le_refl _) _⟩
          case round =>
            obtain ⟨q, f, hq, rfl, hrow, hf, hby⟩ := hrel
            clear hmk HRM2
            have HRW : Hid (wr.rowIs wx.heap.size 112 (L k * 14) f) := hrow
            have HFV : Hid (∀ c, c < q * 14 → f c = valF (X k) c) := hf
            have HBY : Hid (Below wx.heap.size wx wr) := hby
            have u1 : wr.cell? ⟨x1, o1 + k, none⟩ = some (.slice (A k) (L k) (C k)) := (hby.cell l1).trans t1
            by_cases hq2 : q < L k
            · obtain ⟨x4, o4, e4, u4⟩ := HSS.out.below hby (Nat.le_refl _) q hq2
              rw [e4] at u1
              clear e4
              have d0 := hrow.cell (i := q * 14) (by omega)
              have e0 := hrow.frozen (q * 14)
              have d1 := hrow.cell (i := q * 14 + 1) (by omega)
              have e1 := hrow.frozen (q * 14 + 1)
              have d2 := hrow.cell (i := q * 14 + 2) (by omega)
              have e2 := hrow.frozen (q * 14 + 2)
              have d3 := hrow.cell (i := q * 14 + 3) (by omega)
              have e3 := hrow.frozen (q * 14 + 3)
              have d4 := hrow.cell (i := q * 14 + 4) (by omega)
              have e4 := hrow.frozen (q * 14 + 4)
              have d5 := hrow.cell (i := q * 14 + 5) (by omega)
              have e5 := hrow.frozen (q * 14 + 5)
              have d6 := hrow.cell (i := q * 14 + 6) (by omega)
              have e6 := hrow.frozen (q * 14 + 6)
              have d7 := hrow.cell (i := q * 14 + 7) (by omega)
              have e7 := hrow.frozen (q * 14 + 7)
              have d8 := hrow.cell (i := q * 14 + 8) (by omega)
              have e8 := hrow.frozen (q * 14 + 8)
              have d9 := hrow.cell (i := q * 14 + 9) (by omega)
              have e9 := hrow.frozen (q * 14 + 9)
              have d10 := hrow.cell (i := q * 14 + 10) (by omega)
              have e10 := hrow.frozen (q * 14 + 10)
              have d11 := hrow.cell (i := q * 14 + 11) (by omega)
              have e11 := hrow.frozen (q * 14 + 11)
              have d12 := hrow.cell (i := q * 14 + 12) (by omega)
              have e12 := hrow.frozen (q * 14 + 12)
              have d13 := hrow.cell (i := q * 14 + 13) (by omega)
              have e13 := hrow.frozen (q * 14 + 13)
              clear hrow hf hby
              go_wp2_with fail
              go_roundw
              case rel =>
                obtain ⟨f', r1, r2⟩ := val_step HRW.out HFV.out rfl
                exact ⟨q + 1, f', by omega, by go_num, r1, r2, val_below HBY.out (Nat.le_refl _)⟩
              case measure => simp [intOf]; omega
            · obtain rfl : q = L k := by omega
              have HVR : Hid (wr.rowIs wx.heap.size 112 (L k * 14) (valF (X k))) := hrow.congr hf
              have HI2 : Hid (FactsIn V1 wr V1.heap.size FI FT L X k bl g gn gx) := HI.out.later hby
              have u2 : wr.cell? ⟨x2, o2 + k, none⟩ = some (.int .i64 (FI k)) := (hby.cell l2).trans t2
              have u3 : wr.cell? ⟨x3, o3 + k, none⟩ = some (.string (FT k)) := (hby.cell l3).trans t3
              have m2 : x2 < wr.heap.size := World.block_lt_of_cell? wr _ u2
              have m3 : x3 < wr.heap.size := World.block_lt_of_cell? wr _ u3
              clear hrow hf hby HRW HFV t1 t2 t3 u1
              go_upto_region 21 with fail
              go_cut [31, 90] from 90 to 155 (fun v i wc => i = .int .i64 k ∧ v = .pointer (some ⟨wr.heap.size, 0, none⟩) ∧ wc = (wr.alloc (.cells #[.int .i64 (FI k), .string (FT k)] 85)).drew)
              case first =>
                go_region
                all_goals
                  go_wp2_with fail
                  go_meet
                  case rel => exact ⟨rfl, rfl, rfl⟩
              case rest =>
                obtain ⟨rfl, rfl, hW5⟩ := hcut
                obtain ⟨w5, h5⟩ : ∃ w5, w5 = wc := ⟨_, rfl⟩
                subst h5
                have HB5 : Hid (Below wr.heap.size wr w5) := by rw [hW5]; exact ((Below.refl _ _).alloc (Nat.le_refl _) _).drew
                have HI5 : Hid (FactsIn V1 w5 V1.heap.size FI FT L X k bl g gn gx) := HI2.out.later HB5.out
                have HV5 : Hid (w5.rowIs wx.heap.size 112 (L k * 14) (valF (X k))) := HVR.out.of_block (HB5.out.block _ HVR.out.lt)
                have k0 : w5.cell? ⟨wr.heap.size, 0, none⟩ = some (.int .i64 (FI k)) := by
                  rw [hW5]
                  have := (rowIs_lit wr #[.int .i64 (FI k), .string (FT k)] 85).drew
                  exact this.cell (i := 0) (by simp)
                have k1 : w5.cell? ⟨wr.heap.size, 1, none⟩ = some (.string (FT k)) := by
                  rw [hW5]
                  have := (rowIs_lit wr #[.int .i64 (FI k), .string (FT k)] 85).drew
                  exact this.cell (i := 1) (by simp)
                have c51 : w5.cell? ⟨V1.heap.size + 1, 51, none⟩ = some (.map (some V1.heap.size)) := HI5.out.row.cell (i := 51) (by omega)
                clear hW5 HI2 HVR u2 u3
                by_cases hft : (FT k).toList.isEmpty = true
                · have he := empty_of _ hft
                  obtain ⟨key, hkey, hk49⟩ : ∃ key : Nat, FI k = key ∧ key < 49 := ⟨(FI k).toNat, by omega, by omega⟩
                  have dk := HI5.out.row.cell (i := 1 + key) (by omega)
                  have ek := HI5.out.row.frozen (1 + key)
                  rw [hkey] at k0
                  have HI6 : Hid (FactsIn V1 (w5.setCell ⟨V1.heap.size + 1, 1 + key, none⟩ (.slice (some ⟨wx.heap.size, 0, none⟩) (L k) (L k))) V1.heap.size FI FT L X (k + 1) (fun j => if j = k then wx.heap.size else bl j) g gn gx) :=
                    HI5.out.keyed he hkey hk49 HI.out.big HV5.out (fun e => by have := (HI.out.own.lt _ e).2; omega)
                  have lk : wr.heap.size < w5.heap.size := World.block_lt_of_cell? w5 _ k0
                  go_upto_region 24 with fail
                  go_cut [90] from 90 to 155 (fun i wd => i = .int .i64 k ∧ wd = (w5.setCell ⟨V1.heap.size + 1, 1 + key, none⟩ (.slice (some ⟨wx.heap.size, 0, none⟩) (L k) (L k))).drew)
                  case first =>
                    go_region
                    all_goals
                      go_wp2_with fail
                      go_meet
                      case rel => exact ⟨rfl, rfl⟩
                  case rest =>
                    obtain ⟨rfl, hwd⟩ := hcut
                    obtain ⟨wd, h5⟩ : ∃ wd, wd = wc := ⟨_, rfl⟩
                    subst h5
                    obtain ⟨i0, hi0, hzz⟩ := Option.map_eq_some_iff.1 Try.info3
                    simp only [Prod.mk.injEq] at hzz
                    obtain ⟨hz0, hz1, hz2⟩ := hzz
                    have HI7 : Hid (FactsIn V1 wd V1.heap.size FI FT L X (k + 1) (fun j => if j = k then wx.heap.size else bl j) g gn gx) := by rw [hwd]; exact HI6.out.later (Below.refl _ _).drew
                    have z50 : wd.cell? ⟨V1.heap.size + 1, 50, none⟩ = some g := HI7.out.row.cell (i := 50) (by omega)
                    have y50 := HI7.out.row.frozen 50
                    have zk : wd.cell? ⟨wr.heap.size, 0, none⟩ = some (.int .i64 key) := by
                      rw [hwd]
                      show (w5.setCell _ _).cell? _ = _
                      rw [World.cell?_setCell_other _ _ _ _ (fun e => by have := congrArg Addr.block e; have := HI.out.big; have := HBY.out.size; simp at *; try omega)]
                      exact k0
                    have lz : wr.heap.size < wd.heap.size := World.block_lt_of_cell? wd _ zk
                    have lv : V1.heap.size + 1 < wd.heap.size := HI7.out.row.lt
                    have HX7 : Hid (FactsIn V1 (wd.alloc (.cells #[.int .i64 key] 3)).drew V1.heap.size FI FT L X (k + 1) (fun j => if j = k then wx.heap.size else bl j) g gn gx) := HI7.out.later ((Below.refl _ _).alloc (Nat.le_refl _) _).drew
                    have HN7 : Hid (∀ j u, [Value.int .i64 key][j]? = some u → (wd.alloc (.cells #[.int .i64 key] 3)).drew.cell? ((⟨wd.heap.size, 0, none⟩ : Addr).add j) = some u) := fun j u hj => World.news_of_block (cs := #[.int .i64 key]) (heap_alloc_new wd _) j u (by simpa using hj)
                    have hfew := HI.out.few
                    clear hwd
                    have HGB : Hid (∀ b, g.ownBlock = some b → V1.heap.size + 2 ≤ b) := fun b e => (HX7.out.own.lt b e).1
                    go_upto_region 25 with fail
                    go_region_law (refine step_append_lies _ rfl (.tmp 148) (.tmp 151) 30 rfl (V1.heap.size + 2) 3 i0 _ 1 8 Try.underlying30 hi0 hz0 hz1 hz2 rfl (by decide) g gn gx (by simp [Act.eval, Act.put]) (by exact HX7.out.own) ⟨wd.heap.size, 0, none⟩ 1 1 [.int .i64 key] (by simp [Act.eval, Act.put]) rfl (by exact HN7.out) (by simp [Value.oneCell']) (by omega) (by unfold maxLen; omega) (by omega) (by exact HX7.out.big) _ rfl ?_; intro gg cap w1 hown hgrow hat hltg; have hr1 := HX7.out.row.of_block (hgrow.block _ HX7.out.row.lt (fun e => by have := HGB.out _ e.symm; omega)); have t50 := hr1.cell (i := 50) (by omega); have f50 := hr1.frozen 50)
                    all_goals
                      go_wp2_with fail
                      go_roundw
                      case rel => exact ⟨k + 1, _, _, gn + 1, _, by omega, by go_num, HX7.out.given hgrow hown (by omega) (fun b e => by cases e; rcases hat with h | h; exact .inl h.symm; exact .inr (by rw [h]; exact Nat.le_refl _))⟩
                      case measure => simp [intOf]; omega
                · have hft2 : (FT k).toList.isEmpty = false := by simpa using hft
                  clear hft
                  have hfd : FactsIn V1 w5.drew V1.heap.size FI FT L X k bl g gn gx := HI5.out.later (Below.refl _ _).drew
                  obtain ⟨w6, hup0, hm6, hg6⟩ := hfd.map.update (by have := hlt2; simp only [maxLen]; omega) hf49 hfs (wx.heap.size, L k)
                  have hup : (Instr.mapUpdate 93 (.map (some V1.heap.size)) (.agg #[.int .i64 (FI k), .string (FT k)]) (.slice (some ⟨wx.heap.size, 0, none⟩) (L k) (L k))).run Try.prog w5.drew = .ok () w6 := hup0
                  have HI6 : Hid (FactsIn V1 w6 V1.heap.size FI FT L X (k + 1) (fun j => if j = k then wx.heap.size else bl j) g gn gx) :=
                    hfd.tagged hft2 HI.out.big (HV5.out.of_block rfl) (fun e => by have := (HI.out.own.lt _ e).2; omega) hm6 hg6
                  clear hfd hup0 hm6 hg6
                  go_upto_region 23 with fail
                  go_region
                  all_goals
                    go_wp2_with fail
                    go_roundw
                    case rel => exact ⟨k + 1, _, _, _, _, by omega, by go_num, HI6.out⟩
                    case measure => simp [intOf]; omega
        · obtain rfl : m = k := by omega
          have hs2 := HST.out
          have hcall := outcome_any hn HSP.out HI.out ((HB.out.cell (p := ⟨w.heap.size + 1, 3, none⟩) (by simp)).trans hs2.1) ((HB.out.cell (p := ⟨w.heap.size + 1, 7, none⟩) (by simp)).trans hs2.2.1) ((HB.out.cell (p := ⟨w.heap.size + 1, 12, none⟩) (by simp)).trans hs2.2.2.1) ((HB.out.cell (p := ⟨w.heap.size + 1, 15, none⟩) (by simp)).trans hs2.2.2.2) HR.out HF.out
          have hV2 : w.heap.size + 3 ≤ V1.heap.size := by have := HB.out.size; have := HW2.out.2; omega
          have hrx := (HR0.out.of_block (HB.out.block _ (by omega))).of_block (HI.out.bel.block w.heap.size (by omega))
          have hlx : w.heap.size < wx.heap.size := hrx.lt
          have HRX : Hid (wx.rowIs w.heap.size 43 5 (fun i => if i = 0 then .bool false else if i = 4 then .slice none 0 0 else .string eS)) := hrx
          have HBX : Hid (Below w.heap.size w wx) := hbx
          clear hs2 hrx HI HST HR0 HR HF HB HIN HIN2 HRC hbx
          go_wp2_with (go_at_call 29; refine hcall.mono ?_; rintro e w1 ⟨va, vc, rfl, hstr, hxb, hb1⟩; (have hr := HRX.out.of_block (hb1.block _ hlx)); (have r0 : w1.cell? ⟨w.heap.size, 0, none⟩ = some (.bool false) := hr.cell (i := 0) (by omega)); (have r1 : w1.cell? ⟨w.heap.size, 1, none⟩ = some (.string eS) := hr.cell (i := 1) (by omega)); (have r2 : w1.cell? ⟨w.heap.size, 2, none⟩ = some (.string eS) := hr.cell (i := 2) (by omega)); (have r3 : w1.cell? ⟨w.heap.size, 3, none⟩ = some (.string eS) := hr.cell (i := 3) (by omega)); (have r4 : w1.cell? ⟨w.heap.size, 4, none⟩ = some (.slice none 0 0) := hr.cell (i := 4) (by omega)); (have f0 := hr.frozen 0); (have f1 := hr.frozen 1); (have f2 := hr.frozen 2); (have f3 := hr.frozen 3); (have f4 := hr.frozen 4); (have HX : Hid _ := out_reads hr (.bool app) (.string el) (.string op) (.string key) (.slice va l vc)); (have HEND : Hid (OutAll w app el op key l S (.returned (outV app el op key (.slice va l vc))) (((((w1.setCell ⟨w.heap.size, 0, none⟩ (.bool app)).setCell ⟨w.heap.size, 1, none⟩ (.string el)).setCell ⟨w.heap.size, 2, none⟩ (.string op)).setCell ⟨w.heap.size, 3, none⟩ (.string key)).setCell ⟨w.heap.size, 4, none⟩ (.slice va l vc))) := OutAll.stored HBX.out hlx hstr hxb hb1); clear hr hstr hxb hb1; simp only [outV])
          obtain ⟨x0, x1, x2, x3, x4⟩ := HX.out
          exact bodyPost_ret (v := outV app el op key (.slice va l vc)) (by simp [results, Try.results26, go_sem, outV, x0, x1, x2, x3, x4]) rfl HEND.out
end Go.Proofs.Qxb6614456a

/- My own work on the program: buildTracer walked. -/
import Derived.Test.Qxb6608660aFmtW16
namespace Go.Proofs.Qxb6608660aFmt
open Go.RowKit
set_option linter.unusedSimpArgs false
set_option linter.unusedVariables false

theorem Tryf.info50 : (Tryf.prog.info? 50).map (fun i => (i.zero, i.size, i.bytes)) = some (some (.slice none 0 0), 1, 24) := by kernel_rfl
/-- Numbers in blocks of the call's own, below hi. -/
def IntsIn (lo hi : Nat) (w : World) (a : Option Addr) (n : Nat) (Z : Nat → Int) : Prop :=
  ∀ i, i < n → ∃ x o, a = some ⟨x, o, none⟩ ∧ lo ≤ x ∧ x < hi ∧ w.cell? ⟨x, o + i, none⟩ = some (.int .i64 (Z i))
theorem IntsFrom.within {lo lo' : Nat} {w w' : World} {a : Option Addr} {n : Nat} {Z : Nat → Int} (h : IntsFrom lo w a n Z) (hl : lo' ≤ lo) (hb : Below w.heap.size w w') : IntsIn lo' w.heap.size w' a n Z := fun i hi => by
  obtain ⟨x, o, e, hx, hc⟩ := h i hi
  have hxl : x < w.heap.size := World.block_lt_of_cell? w _ hc
  exact ⟨x, o, e, by omega, hxl, (hb.cell (p := ⟨x, o + i, none⟩) hxl).trans hc⟩
/-- The clocks' clones, k of them. -/
def ClocksRel (w : World) (K : Nat) (A : Nat → Option Addr) (L : Nat → Nat) (Z : Nat → Nat → Int) (wr : World) (k : Nat) : Prop :=
  ∃ (f : Nat → Value) (A' : Nat → Option Addr) (C' : Nat → Nat), wr.rowIs w.heap.size 50 K f ∧ (∀ j, j < k → f j = .slice (A' j) (L j) (C' j) ∧ (A' j = none ↔ A j = none) ∧ IntsFrom (w.heap.size + 1) wr (A' j) (L j) (Z j)) ∧ Below w.heap.size w wr
theorem clocks_step {w wr w1 : World} {K k : Nat} {A : Nat → Option Addr} {L : Nat → Nat} {Z : Nat → Nat → Int} (h : ClocksRel w K A L Z wr k) {b : Option Addr} {m : Nat} (hb : Below wr.heap.size wr w1) (hn : b = none ↔ A k = none) (hz : IntsFrom wr.heap.size w1 b (L k) (Z k)) :
    ClocksRel w K A L Z (w1.setCell ⟨w.heap.size, k, none⟩ (.slice b (L k) m)) (k + 1) := by
  obtain ⟨f, A', C', hr, hf, hbel⟩ := h
  have hl := hr.lt
  refine ⟨_, fun j => if j = k then b else A' j, fun j => if j = k then m else C' j, (hr.of_block (hb.block _ hl)).set k _, fun j hj => ?_, (hbel.trans (hb.mono (by omega))).setCell (Nat.le_refl _) _⟩
  by_cases e : j = k
  · subst e
    simp only [if_true]
    exact ⟨trivial, hn, (IntsFrom.mono (B' := w.heap.size + 1) hz (by omega)).set (p := ⟨w.heap.size, j, none⟩) (Nat.lt_succ_self _) _⟩
  · simp only [if_neg e]
    obtain ⟨h1, h2, h3⟩ := hf j (by omega)
    exact ⟨h1, h2, (h3.below hb (Nat.le_refl _)).set (p := ⟨w.heap.size, k, none⟩) (Nat.lt_succ_self _) _⟩

/-- What buildTracer hands back where the execution is traced. -/
def TracerPost (w : World) (K : Nat) (A : Nat → Option Addr) (L : Nat → Nat) (Z : Nat → Nat → Int) (sa : Option Addr) (sl : Nat) (SZ : Nat → Int) (ms : Int) (e : Ending) (w' : World) : Prop :=
  ∃ (Bt Bc : Nat) (A' : Nat → Option Addr) (C' : Nat → Nat) (sa' : Option Addr) (sc' : Nat), e = .returned (.pointer (some ⟨Bt, 0, none⟩)) ∧ Below w.heap.size w w' ∧ w.heap.size ≤ Bc ∧ Bc < Bt ∧ Bt < w'.heap.size ∧ w'.rowIs Bt 113 8 (trF (.slice (some ⟨Bc, 0, none⟩) K K) (.slice sa' sl sc') 0 ms) ∧
    (∀ j, j < K → w'.cell? ⟨Bc, j, none⟩ = some (.slice (A' j) (L j) (C' j)) ∧ (A' j = none ↔ A j = none) ∧ IntsIn w.heap.size Bt w' (A' j) (L j) (Z j)) ∧ (sa' = none ↔ sa = none) ∧ IntsIn w.heap.size Bt w' sa' sl SZ
theorem tracer_end {w wr w1 : World} {K : Nat} {A : Nat → Option Addr} {L : Nat → Nat} {Z : Nat → Nat → Int} {sa b : Option Addr} {sl m : Nat} {SZ : Nat → Int} {ms : Int} (h : ClocksRel w K A L Z wr K) (hb : Below wr.heap.size wr w1) (hn : b = none ↔ sa = none) (hz : IntsFrom wr.heap.size w1 b sl SZ) :
    TracerPost w K A L Z sa sl SZ ms (.returned (.pointer (some ⟨w1.heap.size, 0, none⟩))) (w1.alloc (.cells (trCells (.slice (some ⟨w.heap.size, 0, none⟩) K K) (.slice b sl m) 0 ms) 113)) := by
  obtain ⟨f, A', C', hr, hf, hbel⟩ := h
  have hl := hr.lt
  have hal : Below w1.heap.size w1 (w1.alloc (.cells (trCells (.slice (some ⟨w.heap.size, 0, none⟩) K K) (.slice b sl m) 0 ms) 113)) := (Below.refl _ _).alloc (Nat.le_refl _) _
  refine ⟨w1.heap.size, w.heap.size, A', C', b, m, rfl, (hbel.trans (hb.mono (by omega))).trans (hal.mono (by have := hb.size; omega)), Nat.le_refl _, by have := hb.size; omega, by simp, ?_, fun j hj => ?_, hn, hz.within (by omega) hal⟩
  · exact World.rowIs_alloc w1 _ 113 _ (fun i hi => by unfold trF; simp [hi])
  · obtain ⟨h1, h2, h3⟩ := hf j hj
    refine ⟨?_, h2, (h3.below hb (Nat.le_refl _)).within (by omega) hal⟩
    exact ((hal.cell (p := ⟨w.heap.size, j, none⟩) (show w.heap.size < w1.heap.size from by have := hb.size; omega)).trans ((hb.cell (p := ⟨w.heap.size, j, none⟩) hl).trans (hr.cell hj))).trans (congrArg some h1)

set_option maxRecDepth 100000 in
set_option maxHeartbeats 1000000 in
theorem buildTracer_no (a : Option Addr) (K c : Nat) (sa : Option Addr) (sl sc : Nat) (ms : Int) (w : World) :
    Calls Tryf.prog 12 #[.bool false, .slice a K c, .slice sa sl sc, .int .i64 ms] w fun e w' => e = .returned (.pointer none) ∧ w' = w := by
  go_enter Tryf.func12, Tryf.ntmps12
  go_wp2_with fail
  go_ret
  exact ⟨rfl, rfl⟩

set_option maxRecDepth 100000 in
set_option maxHeartbeats 1000000 in
theorem buildTracer_yes (a : Option Addr) (K c : Nat) (A : Nat → Option Addr) (L C : Nat → Nat) (Z : Nat → Nat → Int) (sa : Option Addr) (sl sc : Nat) (SZ : Nat → Int) (ms : Int) (w : World)
    (hK : K ≤ 1048576) (hL : ∀ j, j < K → L j ≤ 1048576) (hC : RowsAt w a K A L C Z) (hsl : sl ≤ 1048576) (hsn : sa = none → sl = 0) (hS : IntsAt w sa sl SZ) :
    Calls Tryf.prog 12 #[.bool true, .slice a K c, .slice sa sl sc, .int .i64 ms] w (TracerPost w K A L Z sa sl SZ ms) := by
  have hmk := run_make_rows (P := Tryf.prog) 94 50 _ 1 24 Tryf.underlying94 Tryf.info50 .i64 .i64 K (by omega) (by omega) w
  have HC : Hid (RowsAt w a K A L C Z ∧ ∀ j, j < K → L j ≤ 1048576) := ⟨hC, hL⟩
  have HS : Hid (IntsAt w sa sl SZ ∧ (sa = none → sl = 0)) := ⟨hS, hsn⟩
  clear hC hL hS hsn
  go_enter Tryf.func12, Tryf.ntmps12
  go_wp2_with fail
  clear hmk
  go_loopw [10] (fun i wr => ∃ k : Nat, k ≤ K ∧ i = .int .i64 k ∧ ClocksRel w K A L Z wr k) (fun i _ => K - (intOf i).toNat)
  case atStart =>
    obtain ⟨f, hf⟩ := rowIs_madeMany w #[.slice none 0 0] K 50
    exact ⟨0, Nat.zero_le _, rfl, f, fun _ => none, fun _ => 0, hf, fun j hj => absurd hj (by omega), (Below.refl _ _).alloc (Nat.le_refl _) _⟩
  case round =>
    obtain ⟨k, hk, rfl, hr⟩ := hrel
    have HR : Hid (ClocksRel w K A L Z wr k) := hr
    obtain ⟨f, A', C', hrow, _, hbel⟩ := hr
    by_cases hlt : k < K
    · obtain ⟨x, o, rfl, c0, hI, hn0⟩ := HC.out.1.below hbel (Nat.le_refl _) k hlt
      have hxl : x < wr.heap.size := World.block_lt_of_cell? wr _ c0
      have hcl := cloneInts_any (A k) (L k) (C k) (Z k) wr (HC.out.2 k hlt) hn0 hI
      have HRW : Hid (wr.rowIs w.heap.size 50 K f) := hrow
      have hl0 : w.heap.size < wr.heap.size := hrow.lt
      clear hI hn0 hrow hbel
      go_wp2_with (go_at_call 26; refine hcl.mono ?_; rintro e w1 ⟨b, m, rfl, hb1, hbn, hif⟩; (have hr1 := HRW.out.of_block (hb1.block _ hl0)); (have d0 := hr1.cell hlt); (have e0 := hr1.frozen k); (have HST : Hid (ClocksRel w K A L Z (w1.setCell ⟨w.heap.size, k, none⟩ (.slice b (L k) m)) (k + 1)) := clocks_step HR.out hb1 hbn hif); clear hb1 hbn hif hr1)
      go_roundw
      case rel => exact ⟨k + 1, by omega, by go_num, HST.out⟩
      case measure => simp [intOf]; omega
    · obtain rfl : K = k := by omega
      have hcl := cloneInts_any sa sl sc SZ wr hsl HS.out.2 (HS.out.1.below hbel (Nat.le_refl _))
      clear hrow hbel
      go_wp2_with (first | (go_at_call 26; refine hcl.mono ?_; rintro e w1 ⟨b, m, rfl, hb1, hbn, hif⟩; (have HEND : Hid (TracerPost w K A L Z sa sl SZ ms (.returned (.pointer (some ⟨w1.heap.size, 0, none⟩))) (w1.alloc (.cells (trCells (.slice (some ⟨w.heap.size, 0, none⟩) K K) (.slice b sl m) 0 ms) 113))) := tracer_end HR.out hb1 hbn hif); clear hb1 hbn hif) | (go_at_call 27; refine (newTracer_any _ _ _ _ _ _ _ _).mono ?_; rintro e w' ⟨rfl, rfl⟩))
      go_ret
      exact HEND.out
end Go.Proofs.Qxb6608660aFmt

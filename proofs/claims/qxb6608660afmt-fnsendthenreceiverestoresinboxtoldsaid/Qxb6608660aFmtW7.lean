import Derived.Test.Qxb6608660aFmtW6
namespace Go.Proofs.Qxb6608660aFmt
open Go.RowKit

/-- A stamp's two cells in a row of stamps: slot j holds stamp 'arr j'. -/
def scell (A : Nat → Option Addr) (L C : Nat → Nat) (N : Nat → Int) (arr : Nat → Nat) (c : Nat) : Value :=
  if c % 2 = 0 then .slice (A (arr (c / 2))) (L (arr (c / 2))) (C (arr (c / 2))) else .int .i64 (N (arr (c / 2)))
theorem scell0 (A : Nat → Option Addr) (L C : Nat → Nat) (N : Nat → Int) (arr : Nat → Nat) (j : Nat) : scell A L C N arr (j * 2) = .slice (A (arr j)) (L (arr j)) (C (arr j)) := by
  unfold scell; rw [if_pos (by omega), show j * 2 / 2 = j by omega]
theorem scell1 (A : Nat → Option Addr) (L C : Nat → Nat) (N : Nat → Int) (arr : Nat → Nat) (j : Nat) : scell A L C N arr (j * 2 + 1) = .int .i64 (N (arr j)) := by
  unfold scell; rw [if_neg (by omega), show (j * 2 + 1) / 2 = j by omega]

def ToStampsPost (w : World) (n : Nat) (L : Nat → Nat) (Z : Nat → Nat → Int) (N : Nat → Int) (e : Ending) (w' : World) : Prop :=
  ∃ b, e = .returned (.slice b n n) ∧ Below w.heap.size w w' ∧ (0 < n → ∃ B A C, b = some ⟨B, 0, none⟩ ∧ w.heap.size ≤ B ∧ w'.rowIs B 52 (n * 2) (scell A L C N id) ∧ ∀ j, j < n → IntsFrom (B + 1) w' (A j) (L j) (Z j))

def StampsRel (w : World) (n : Nat) (L : Nat → Nat) (Z : Nat → Nat → Int) (N : Nat → Int) (wr : World) (k : Nat) : Prop :=
  ∃ A C f, wr.rowIs w.heap.size 52 (n * 2) f ∧ (∀ c, c < k * 2 → f c = scell A L C N id c) ∧ (∀ j, j < k → IntsFrom (w.heap.size + 1) wr (A j) (L j) (Z j)) ∧ Below w.heap.size w wr

/-- What a round of toStamps does. -/
theorem stamps_step {w wr w1 w2 : World} {n k : Nat} {L : Nat → Nat} {Z : Nat → Nat → Int} {N : Nat → Int} (h : StampsRel w n L Z N wr k) {b : Option Addr} {m : Nat}
    (hb1 : Below wr.drew.heap.size wr.drew w1) (hi : IntsFrom wr.drew.heap.size w1 b (L k) (Z k)) (hb2 : Below w1.heap.size w1 w2) (hlt : k < n) :
    StampsRel w n L Z N ((w2.setCell ⟨w.heap.size, k * 2, none⟩ (.slice b (L k) m)).setCell ⟨w.heap.size, k * 2 + 1, none⟩ (.int .i64 (N k))) (k + 1) := by
  obtain ⟨A, C, f, hrow, hf, hj, hbel⟩ := h
  have hlt0 := hrow.lt
  have hs1 := hb1.size
  have e0 : wr.drew.heap.size = wr.heap.size := rfl
  have hr1 : w1.rowIs w.heap.size 52 (n * 2) f := hrow.drew.of_block (hb1.block _ hlt0)
  have hr2 : w2.rowIs w.heap.size 52 (n * 2) f := hr1.of_block (hb2.block _ hr1.lt)
  have hbl : Below w.heap.size w w2 := (hbel.drew.trans (hb1.mono (by omega))).trans (hb2.mono (by omega))
  refine ⟨fun j => if j = k then b else A j, fun j => if j = k then m else C j, _, (hr2.set _ _).set _ _, fun c hc => ?_, fun j hj' => ?_, (hbl.setCell (Nat.le_refl _) _).setCell (Nat.le_refl _) _⟩
  · rcases (show c < k * 2 ∨ c = k * 2 ∨ c = k * 2 + 1 from by omega) with h | rfl | rfl
    · rw [if_neg (by omega), if_neg (by omega), hf c h]
      unfold scell
      have : ¬ c / 2 = k := by omega
      simp [this]
    · rw [if_neg (by omega), if_pos rfl, scell0]; simp
    · rw [if_pos rfl, scell1]; simp
  · by_cases e : j = k
    · subst e
      simp only [if_true]
      exact (((hi.mono (by omega)).below hb2 (Nat.le_refl _)).set (by simp) _).set (by simp) _
    · simp only [if_neg e]
      have h0 : IntsFrom (w.heap.size + 1) wr.drew (A j) (L j) (Z j) := hj j (by omega)
      exact (((h0.below hb1 (Nat.le_refl _)).below hb2 (Nat.le_refl _)).set (by simp) _).set (by simp) _

set_option maxRecDepth 100000 in
set_option maxHeartbeats 1000000 in
theorem toStamps_any (a : Option Addr) (n c : Nat) (A : Nat → Option Addr) (L C : Nat → Nat) (Z : Nat → Nat → Int) (N : Nat → Int) (w : World) (hn : n ≤ 1048576) (hnil : a = none → n = 0) (hL : ∀ i, i < n → L i ≤ 1048576) (ha : StampsAt w a n A L C Z N) :
    Calls Tryf.prog 24 #[.slice a n c] w (ToStampsPost w n L Z N) := by
  have hmk := run_make_rows (P := Tryf.prog) 47 52 _ 2 32 Tryf.underlying47 Tryf.info52 .i64 .i64 n (by omega) (by omega)
  have heq := fun wx => Lib.run_eql_slice_nil (P := Tryf.prog) wx 24 62 a n c 0 0 Tryf.underlying24
  by_cases hz : a = none
  · subst hz
    obtain rfl := hnil rfl
    go_enter Tryf.func24, Tryf.ntmps24
    go_wp2
    go_ret
    exact ⟨none, rfl, Below.refl _ _, fun h => absurd h (by omega)⟩
  · have hs : a.isNone = false := by cases a <;> simp_all
    go_enter Tryf.func24, Tryf.ntmps24
    go_wp2
    go_loopw [4] (fun i wr => ∃ k : Nat, k ≤ n ∧ i = .int .i64 k ∧ StampsRel w n L Z N wr k) (fun i _ => n - (intOf i).toNat)
    case atStart =>
      obtain ⟨f, hf⟩ := rowIs_madeMany w (Value.agg #[.slice none 0 0, .int .i64 0]).cells (n * 2) 52
      exact ⟨0, Nat.zero_le _, rfl, A, C, f, hf, fun c hc => absurd hc (by omega), fun j hj => absurd hj (by omega), (Below.refl _ _).alloc (Nat.le_refl _) _⟩
    case round =>
      obtain ⟨k, hk, rfl, hrel⟩ := hrel
      by_cases hlt : k < n
      · obtain ⟨x, o, rfl, hc0, hc1, hIA, hnA⟩ := ha k hlt
        have hLk := hL k hlt
        have hxne : w.heap.size ≠ x := Nat.ne_of_gt (World.block_lt_of_cell? w _ hc0)
        obtain ⟨hrl, ⟨f, hrow⟩, hbel⟩ : w.heap.size < wr.heap.size ∧ (∃ f, wr.rowIs w.heap.size 52 (n * 2) f) ∧ Below w.heap.size w wr := by
          obtain ⟨A, C, f, hrow, hf, hj, hbel⟩ := hrel
          exact ⟨hrow.lt, ⟨f, hrow⟩, hbel⟩
        have hI : IntsAt wr.drew (A k) (L k) (Z k) := hIA.below hbel.drew (Nat.le_refl _)
        rw [← hbel.cell (World.block_lt_of_cell? w _ hc0)] at hc0
        rw [← hbel.cell (World.block_lt_of_cell? w _ hc1)] at hc1
        have hxl : x < wr.heap.size := World.block_lt_of_cell? wr _ hc0
        have d0 := hrow.cell (i := k * 2) (by omega)
        have d1 := hrow.cell (i := k * 2 + 1) (by omega)
        have f0 := hrow.frozen
        have HR : Hid (StampsRel w n L Z N wr k) := hrel
        have HI : Hid (IntsAt wr.drew (A k) (L k) (Z k)) := hI
        have HA : Hid (A k = none → L k = 0) := hnA
        clear ha hrel hbel hrow hIA hI hnA hL
        have h1 : (k : Int) < (n : Int) := by omega
        go_wp2
        go_region_held3 (fun w' => w'.cell? ⟨x, o + k * 2, none⟩ = some (.slice (A k) (L k) (C k)) ∧ w'.cell? ⟨x, o + k * 2 + 1, none⟩ = some (.int .i64 (N k)))
          (go_keep)
          (first
            | (go_at_call 26; refine (cloneInts_any _ _ _ (Z k) _ hLk HA.out HI.out).mono ?_; rintro e w1 ⟨b, m, rfl, hb1, hbn, hIf⟩; have HB : Hid (Below wr.drew.heap.size wr.drew w1) := hb1; have e0 := later hb1 hc0; have e1 := later hb1 hc1; have e3 := later hb1 d0; have e4 := later hb1 d1; have e6 := laterF hb1 hrl (k * 2) (f0 _); have e7 := laterF hb1 hrl (k * 2 + 1) (f0 _); have e8 : w.heap.size < w1.heap.size := Nat.lt_of_lt_of_le hrl hb1.size; have HIf : Hid (IntsFrom wr.drew.heap.size w1 b (L k) (Z k)) := hIf; clear hIf hb1 hbn)
            | (go_at_call 35; refine (newStamp_any _ _ _ _ _).mono ?_; rintro e w2 ⟨rfl, hb2⟩; have g0 := cell_later hb2 e0; have g1 := cell_later hb2 e1; have g3 := cell_later hb2 e3; have g4 := cell_later hb2 e4; have g6 := (hb2.frozen (p := ⟨w.heap.size, k * 2, none⟩) e8).trans e6; have g7 := (hb2.frozen (p := ⟨w.heap.size, k * 2 + 1, none⟩) e8).trans e7))
        go_wp2
        go_roundw
        case rel => exact ⟨k + 1, by omega, by go_num, stamps_step HR.out HB.out HIf.out hb2 hlt⟩
        case measure => simp [intOf]; omega
      · obtain rfl : k = n := by omega
        have HR : Hid (StampsRel w k L Z N wr k) := hrel
        clear ha hrel hL
        go_wp2
        go_ret
        obtain ⟨A, C, f, hrow, hf, hj, hbel⟩ := HR.out
        exact ⟨some ⟨w.heap.size, 0, none⟩, rfl, hbel, fun _ => ⟨w.heap.size, A, C, rfl, Nat.le_refl _, hrow.congr hf, hj⟩⟩

end Go.Proofs.Qxb6608660aFmt

/- My own work on the program: toMessages, toStamps: the row told at length 0 too (by tools/mk18.py out of W6, W7). -/
import Derived.Test.Qxb6608660aFmtW16
namespace Go.Proofs.Qxb6608660aFmt
open Go.RowKit
set_option linter.unusedSimpArgs false
set_option linter.unusedVariables false

def ToMsgsAll (w : World) (n : Nat) (F T : Nat → ByteArray) (Q : Nat → Int) (e : Ending) (w' : World) : Prop :=
  ∃ b, e = .returned (.slice b n n) ∧ Below w.heap.size w w' ∧ ((b = none ∧ n = 0) ∨ ∃ B, b = some ⟨B, 0, none⟩ ∧ w.heap.size ≤ B ∧ w'.rowIs B 57 (n * 3) (mcell F T Q id))
def ToStampsAll (w : World) (n : Nat) (L : Nat → Nat) (Z : Nat → Nat → Int) (N : Nat → Int) (e : Ending) (w' : World) : Prop :=
  ∃ b, e = .returned (.slice b n n) ∧ Below w.heap.size w w' ∧ ((b = none ∧ n = 0) ∨ ∃ B A C, b = some ⟨B, 0, none⟩ ∧ w.heap.size ≤ B ∧ w'.rowIs B 52 (n * 2) (scell A L C N id) ∧ ∀ j, j < n → IntsFrom (B + 1) w' (A j) (L j) (Z j))

set_option maxRecDepth 100000 in
set_option maxHeartbeats 1000000 in
theorem toMessages_all (a : Option Addr) (n c : Nat) (F T : Nat → ByteArray) (Q : Nat → Int) (w : World) (hn : n ≤ 1048576) (hnil : a = none → n = 0) (ha : MsgsAt w a n F T Q) :
    Calls Tryf.prog 13 #[.slice a n c] w (ToMsgsAll w n F T Q) := by
  have hmk := run_make_rows (P := Tryf.prog) 40 57 _ 3 48 Tryf.underlying40 Tryf.info57 .i64 .i64 n (by omega) (by omega)
  have heq := fun wx => Lib.run_eql_slice_nil (P := Tryf.prog) wx 23 60 a n c 0 0 Tryf.underlying23
  by_cases hz : a = none
  · subst hz
    obtain rfl := hnil rfl
    go_enter Tryf.func13, Tryf.ntmps13
    go_wp2
    go_ret
    exact ⟨none, rfl, Below.refl _ _, .inl ⟨rfl, rfl⟩⟩
  · have hs : a.isNone = false := by cases a <;> simp_all
    go_enter Tryf.func13, Tryf.ntmps13
    go_wp2
    go_loopw [4] (fun i wr => ∃ k : Nat, k ≤ n ∧ i = .int .i64 k ∧ (∃ f, wr.rowIs w.heap.size 57 (n * 3) f ∧ ∀ c, c < k * 3 → f c = mcell F T Q id c) ∧ Below w.heap.size w wr) (fun i _ => n - (intOf i).toNat)
    case atStart =>
      obtain ⟨f, hf⟩ := rowIs_madeMany w (Value.agg #[.string ByteArray.empty, .string ByteArray.empty, .nilIface]).cells (n * 3) 57
      exact ⟨0, Nat.zero_le _, rfl, ⟨f, hf, fun c hc => absurd hc (by omega)⟩, (Below.refl _ _).alloc (Nat.le_refl _) _⟩
    case round =>
      obtain ⟨k, hk, rfl, ⟨f, hrow, hf⟩, hbel⟩ := hrel
      by_cases hlt : k < n
      · obtain ⟨x, o, rfl, hc0, hc1, hc2⟩ := ha k hlt
        have hxne : w.heap.size ≠ x := Nat.ne_of_gt (World.block_lt_of_cell? w _ hc0)
        rw [← hbel.cell (World.block_lt_of_cell? w _ hc0)] at hc0
        rw [← hbel.cell (World.block_lt_of_cell? w _ hc1)] at hc1
        rw [← hbel.cell (World.block_lt_of_cell? w _ hc2)] at hc2
        have hrl := hrow.lt
        have hxl : x < wr.heap.size := World.block_lt_of_cell? wr _ hc0
        have d0 := hrow.cell (i := k * 3) (by omega)
        have d1 := hrow.cell (i := k * 3 + 1) (by omega)
        have d2 := hrow.cell (i := k * 3 + 2) (by omega)
        have f0 := hrow.frozen
        have HF : Hid (∀ c, c < k * 3 → f c = mcell F T Q id c) := hf
        have HB : Hid (Below w.heap.size w wr) := hbel
        have HR : Hid (wr.rowIs w.heap.size 57 (n * 3) f) := hrow
        clear ha hf hbel hrow
        have h1 : (k : Int) < (n : Int) := by omega
        go_wp2
        go_region_held3 (fun w' => w'.cell? ⟨x, o + k * 3, none⟩ = some (.string (F k)) ∧ w'.cell? ⟨x, o + k * 3 + 1, none⟩ = some (.string (T k)) ∧ w'.cell? ⟨x, o + k * 3 + 2, none⟩ = some (.int .i64 (Q k)))
          (go_keep)
          (first | (go_at_call 28; refine (zzMessage_any _ _ _ _).mono ?_; rintro e w1 ⟨rfl, hb1⟩; have e0 := later hb1 hc0; have e1 := later hb1 hc1; have e2 := later hb1 hc2; have e3 := later hb1 d0; have e4 := later hb1 d1; have e5 := later hb1 d2; have e6 := laterF hb1 hrl (k * 3) (f0 _); have e7 := laterF hb1 hrl (k * 3 + 1) (f0 _); have e8 := laterF hb1 hrl (k * 3 + 2) (f0 _)))
        all_goals
          go_wp2
          go_roundw
          case rel => exact msgs_step HF.out HR.out HB.out hb1 hlt
          case measure => simp [intOf]; omega
      · obtain rfl : k = n := by omega
        have HR : Hid (wr.rowIs w.heap.size 57 (k * 3) (mcell F T Q id)) := hrow.congr hf
        clear ha hrow hf
        go_wp2
        go_ret
        exact ⟨some ⟨w.heap.size, 0, none⟩, rfl, hbel, .inr ⟨w.heap.size, rfl, Nat.le_refl _, HR.out⟩⟩

set_option maxRecDepth 100000 in
set_option maxHeartbeats 1000000 in
theorem toStamps_all (a : Option Addr) (n c : Nat) (A : Nat → Option Addr) (L C : Nat → Nat) (Z : Nat → Nat → Int) (N : Nat → Int) (w : World) (hn : n ≤ 1048576) (hnil : a = none → n = 0) (hL : ∀ i, i < n → L i ≤ 1048576) (ha : StampsAt w a n A L C Z N) :
    Calls Tryf.prog 24 #[.slice a n c] w (ToStampsAll w n L Z N) := by
  have hmk := run_make_rows (P := Tryf.prog) 47 52 _ 2 32 Tryf.underlying47 Tryf.info52 .i64 .i64 n (by omega) (by omega)
  have heq := fun wx => Lib.run_eql_slice_nil (P := Tryf.prog) wx 24 62 a n c 0 0 Tryf.underlying24
  by_cases hz : a = none
  · subst hz
    obtain rfl := hnil rfl
    go_enter Tryf.func24, Tryf.ntmps24
    go_wp2
    go_ret
    exact ⟨none, rfl, Below.refl _ _, .inl ⟨rfl, rfl⟩⟩
  · have hs : a.isNone = false := by cases a <;> simp_all
    go_enter Tryf.func24, Tryf.ntmps24
    go_wp2
    go_loopw [4] (fun i wr => ∃ k : Nat, k ≤ n ∧ i = .int .i64 k ∧ StampsRel w n L Z N wr k) (fun i _ => n - (intOf i).toNat)
    case atStart =>
      obtain ⟨f, hf⟩ := rowIs_madeMany w (Value.agg #[.slice none 0 0, .int .i64 0]).cells (n * 2) 52
      exact ⟨0, Nat.zero_le _, rfl, A, C, f, hf, fun c hc => absurd hc (by omega), fun j hj => absurd hj (by omega), (Below.refl _ _).alloc (Nat.le_refl _) _⟩
    case round =>
      obtain ⟨k, hk, rfl, hrel⟩ := hrel
      by_cases hlt : k < n
      · obtain ⟨x, o, rfl, hc0, hc1, hIA, hnA⟩ := ha k hlt
        have hLk := hL k hlt
        have hxne : w.heap.size ≠ x := Nat.ne_of_gt (World.block_lt_of_cell? w _ hc0)
        obtain ⟨hrl, ⟨f, hrow⟩, hbel⟩ : w.heap.size < wr.heap.size ∧ (∃ f, wr.rowIs w.heap.size 52 (n * 2) f) ∧ Below w.heap.size w wr := by
          obtain ⟨A, C, f, hrow, hf, hj, hbel⟩ := hrel
          exact ⟨hrow.lt, ⟨f, hrow⟩, hbel⟩
        have hI : IntsAt wr.drew (A k) (L k) (Z k) := hIA.below hbel.drew (Nat.le_refl _)
        rw [← hbel.cell (World.block_lt_of_cell? w _ hc0)] at hc0
        rw [← hbel.cell (World.block_lt_of_cell? w _ hc1)] at hc1
        have hxl : x < wr.heap.size := World.block_lt_of_cell? wr _ hc0
        have d0 := hrow.cell (i := k * 2) (by omega)
        have d1 := hrow.cell (i := k * 2 + 1) (by omega)
        have f0 := hrow.frozen
        have HR : Hid (StampsRel w n L Z N wr k) := hrel
        have HI : Hid (IntsAt wr.drew (A k) (L k) (Z k)) := hI
        have HA : Hid (A k = none → L k = 0) := hnA
        clear ha hrel hbel hrow hIA hI hnA hL
        have h1 : (k : Int) < (n : Int) := by omega
        go_wp2
        go_region_held3 (fun w' => w'.cell? ⟨x, o + k * 2, none⟩ = some (.slice (A k) (L k) (C k)) ∧ w'.cell? ⟨x, o + k * 2 + 1, none⟩ = some (.int .i64 (N k)))
          (go_keep)
          (first
            | (go_at_call 26; refine (cloneInts_any _ _ _ (Z k) _ hLk HA.out HI.out).mono ?_; rintro e w1 ⟨b, m, rfl, hb1, hbn, hIf⟩; have HB : Hid (Below wr.drew.heap.size wr.drew w1) := hb1; have e0 := later hb1 hc0; have e1 := later hb1 hc1; have e3 := later hb1 d0; have e4 := later hb1 d1; have e6 := laterF hb1 hrl (k * 2) (f0 _); have e7 := laterF hb1 hrl (k * 2 + 1) (f0 _); have e8 : w.heap.size < w1.heap.size := Nat.lt_of_lt_of_le hrl hb1.size; have HIf : Hid (IntsFrom wr.drew.heap.size w1 b (L k) (Z k)) := hIf; clear hIf hb1 hbn)
            | (go_at_call 35; refine (newStamp_any _ _ _ _ _).mono ?_; rintro e w2 ⟨rfl, hb2⟩; have g0 := cell_later hb2 e0; have g1 := cell_later hb2 e1; have g3 := cell_later hb2 e3; have g4 := cell_later hb2 e4; have g6 := (hb2.frozen (p := ⟨w.heap.size, k * 2, none⟩) e8).trans e6; have g7 := (hb2.frozen (p := ⟨w.heap.size, k * 2 + 1, none⟩) e8).trans e7))
        go_wp2
        go_roundw
        case rel => exact ⟨k + 1, by omega, by go_num, stamps_step HR.out HB.out HIf.out hb2 hlt⟩
        case measure => simp [intOf]; omega
      · obtain rfl : k = n := by omega
        have HR : Hid (StampsRel w k L Z N wr k) := hrel
        clear ha hrel hL
        go_wp2
        go_ret
        obtain ⟨A, C, f, hrow, hf, hj, hbel⟩ := HR.out
        exact ⟨some ⟨w.heap.size, 0, none⟩, rfl, hbel, .inr ⟨w.heap.size, A, C, rfl, Nat.le_refl _, hrow.congr hf, hj⟩⟩


/-- A row by its content is a row of the program's own. -/
theorem own_of_row {w : World} {base g n size : Nat} {e : TypeId} {f : Nat → Value} (h : w.rowIs g e (n * size) f) (hb : base ≤ g) (hn : n ≤ maxLen) : w.ownsRow base e size (.slice (some ⟨g, 0, none⟩) n n) n ((List.range (n * size)).map f) := by
  obtain ⟨c, h1, h2, h3⟩ := h
  refine ⟨by simp, .inr ⟨g, n, c, rfl, hb, h1, Nat.le_refl _, hn, h2, ?_⟩⟩
  apply List.ext_getElem?
  intro i
  rcases Nat.lt_or_ge i (n * size) with hi | hi
  · rw [List.getElem?_take_of_lt hi]
    have := h3 i hi
    simp at this ⊢
    rw [this]
    simp [hi]
  · rw [List.getElem?_eq_none (by simp; omega), List.getElem?_eq_none (by simp; omega)]
def mList (n : Nat) (F T : Nat → ByteArray) (Q : Nat → Int) : List Value := (List.range (n * 3)).map (mcell F T Q id)
def sList (n : Nat) (A : Nat → Option Addr) (L C : Nat → Nat) (N : Nat → Int) : List Value := (List.range (n * 2)).map (scell A L C N id)
theorem ToMsgsAll.own {w w' : World} {n : Nat} {F T : Nat → ByteArray} {Q : Nat → Int} {e : Ending} (h : ToMsgsAll w n F T Q e w') (hn : n ≤ maxLen) :
    ∃ b, e = .returned (.slice b n n) ∧ Below w.heap.size w w' ∧ w'.ownsRow w.heap.size 57 3 (.slice b n n) n (mList n F T Q) := by
  obtain ⟨b, he, hb, ⟨rfl, rfl⟩ | ⟨B, rfl, hB, hr⟩⟩ := h
  · exact ⟨none, he, hb, by simp [mList], .inl ⟨rfl, rfl⟩⟩
  · exact ⟨_, he, hb, own_of_row hr hB hn⟩
theorem ToStampsAll.own {w w' : World} {n : Nat} {L : Nat → Nat} {Z : Nat → Nat → Int} {N : Nat → Int} {e : Ending} (h : ToStampsAll w n L Z N e w') (hn : n ≤ maxLen) :
    ∃ b A C, e = .returned (.slice b n n) ∧ Below w.heap.size w w' ∧ w'.ownsRow w.heap.size 52 2 (.slice b n n) n (sList n A L C N) ∧ ∀ j, j < n → ∃ g, (Value.slice b n n).ownBlock = some g ∧ IntsFrom (g + 1) w' (A j) (L j) (Z j) := by
  obtain ⟨b, he, hb, ⟨rfl, rfl⟩ | ⟨B, A, C, rfl, hB, hr, hz⟩⟩ := h
  · exact ⟨none, fun _ => none, fun _ => 0, he, hb, ⟨by simp [sList], .inl ⟨rfl, rfl⟩⟩, fun j hj => absurd hj (by omega)⟩
  · exact ⟨_, A, C, he, hb, own_of_row hr hB hn, fun j hj => ⟨B, rfl, hz j hj⟩⟩
end Go.Proofs.Qxb6608660aFmt

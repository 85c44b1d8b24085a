import Derived.Test.Qxb6608660aFmtW5
namespace Go.Proofs.Qxb6608660aFmt
open Go.RowKit

theorem Tryf.info57 : (Tryf.prog.info? 57).map (fun i => (i.zero, i.size, i.bytes)) = some (some (.agg #[.string ByteArray.empty, .string ByteArray.empty, .nilIface]), 3, 48) := by kernel_rfl
theorem Tryf.info52 : (Tryf.prog.info? 52).map (fun i => (i.zero, i.size, i.bytes)) = some (some (.agg #[.slice none 0 0, .int .i64 0]), 2, 32) := by kernel_rfl

/-- 'make([]T, n)', T of several cells, for every world. -/
theorem run_make_rows {P : Program} (t e : TypeId) (z : Value) (size bytes : Nat) (ht : P.underlying t = some (.slice e)) (hinfo : (P.info? e).map (fun i => (i.zero, i.size, i.bytes)) = some (some z, size, bytes))
    (kl kc : IntKind) (n : Nat) (hbytes : bytes * n ≤ 281474976710656) (h63 : n ≤ 9223372036854775807) (w : World) :
    (Instr.makeSlice t (.int kl (n : Int)) (.int kc (n : Int))).run P w = .ok (.slice (some ⟨w.heap.size, 0, none⟩) n n) (w.alloc (.cells (madeCells z.cells (n * size)) e)) := by
  obtain ⟨i, hi, hzz⟩ := Option.map_eq_some_iff.1 hinfo
  simp only [Prod.mk.injEq] at hzz
  obtain ⟨hz, rfl, rfl⟩ := hzz
  have hb' : (i.bytes : Int) * (n : Int) ≤ 281474976710656 := by
    have h : ((i.bytes * n : Nat) : Int) ≤ 281474976710656 := by omega
    rwa [Int.natCast_mul] at h
  have hr := run_make (P := P) w t e i z ht hi hz kl kc n n (by omega) (Int.le_refl _) hb' (by omega)
  simp only [Int.toNat_natCast] at hr
  exact hr

theorem rowIs_madeMany (w : World) (z : Array Value) (n : Nat) (t : TypeId) : ∃ f, (w.alloc (.cells (madeCells z n) t)).rowIs w.heap.size t n f :=
  ⟨fun i => ((madeCells z n)[i]?).getD undef, madeCells z n, Deep.blk_alloc_new _ _, size_madeCells _ _, fun i hi => by
    show (madeCells z n)[i]? = some ((madeCells z n)[i]?.getD undef)
    rw [Array.getElem?_eq_getElem (by rw [size_madeCells]; exact hi)]; rfl⟩

/-- Behind a draw and a call that leaves all that was there: a cell; a mark. -/
theorem later {W w1 : World} (hb : Below W.drew.heap.size W.drew w1) {a : Addr} {v : Value} (h : W.cell? a = some v) : w1.cell? a = some v :=
  (hb.cell (p := a) (World.block_lt_of_cell? W _ h)).trans h
theorem laterF {W w1 : World} (hb : Below W.drew.heap.size W.drew w1) {b : Nat} (hB : b < W.heap.size) (o : Nat) {v : Bool} (h : W.frozen? ⟨b, o, none⟩ = v) : w1.frozen? ⟨b, o, none⟩ = v :=
  (hb.frozen (p := ⟨b, o, none⟩) hB).trans h

/-- A message's three cells in a row of messages: slot j holds message 'arr j'. -/
def mcell (F T : Nat → ByteArray) (Q : Nat → Int) (arr : Nat → Nat) (c : Nat) : Value :=
  if c % 3 = 0 then .string (F (arr (c / 3))) else if c % 3 = 1 then .string (T (arr (c / 3))) else .iface 3 (.int .i64 (Q (arr (c / 3))))
theorem mcell0 (F T : Nat → ByteArray) (Q : Nat → Int) (arr : Nat → Nat) (j : Nat) : mcell F T Q arr (j * 3) = .string (F (arr j)) := by
  unfold mcell; rw [if_pos (by omega), show j * 3 / 3 = j by omega]
theorem mcell1 (F T : Nat → ByteArray) (Q : Nat → Int) (arr : Nat → Nat) (j : Nat) : mcell F T Q arr (j * 3 + 1) = .string (T (arr j)) := by
  unfold mcell; rw [if_neg (by omega), if_pos (by omega), show (j * 3 + 1) / 3 = j by omega]
theorem mcell2 (F T : Nat → ByteArray) (Q : Nat → Int) (arr : Nat → Nat) (j : Nat) : mcell F T Q arr (j * 3 + 2) = .iface 3 (.int .i64 (Q (arr j))) := by
  unfold mcell; rw [if_neg (by omega), if_neg (by omega), show (j * 3 + 2) / 3 = j by omega]

def ToMsgsPost (w : World) (n : Nat) (F T : Nat → ByteArray) (Q : Nat → Int) (e : Ending) (w' : World) : Prop :=
  ∃ b, e = .returned (.slice b n n) ∧ Below w.heap.size w w' ∧ (0 < n → ∃ B, b = some ⟨B, 0, none⟩ ∧ w.heap.size ≤ B ∧ w'.rowIs B 57 (n * 3) (mcell F T Q id))

/-- What a round of toMessages does. -/
theorem msgs_step {w wr w1 : World} {n k : Nat} {F T : Nat → ByteArray} {Q : Nat → Int} {f : Nat → Value} (hf : ∀ c, c < k * 3 → f c = mcell F T Q id c) (hrow : wr.rowIs w.heap.size 57 (n * 3) f) (hbel : Below w.heap.size w wr)
    (hb1 : Below wr.drew.heap.size wr.drew w1) (hlt : k < n) :
    ∃ k' : Nat, k' ≤ n ∧ Value.int .i64 (↑k + 1) = .int .i64 k' ∧ (∃ f, (((w1.setCell ⟨w.heap.size, k * 3, none⟩ (.string (F k))).setCell ⟨w.heap.size, k * 3 + 1, none⟩ (.string (T k))).setCell ⟨w.heap.size, k * 3 + 2, none⟩ (.iface 3 (.int .i64 (Q k)))).rowIs w.heap.size 57 (n * 3) f ∧ ∀ c, c < k' * 3 → f c = mcell F T Q id c) ∧
      Below w.heap.size w (((w1.setCell ⟨w.heap.size, k * 3, none⟩ (.string (F k))).setCell ⟨w.heap.size, k * 3 + 1, none⟩ (.string (T k))).setCell ⟨w.heap.size, k * 3 + 2, none⟩ (.iface 3 (.int .i64 (Q k)))) := by
  have hlt0 := hrow.lt
  have hr1 : w1.rowIs w.heap.size 57 (n * 3) f := hrow.drew.of_block (hb1.block _ hlt0)
  have hbl : Below w.heap.size w w1 := hbel.drew.trans (hb1.mono (by show w.heap.size ≤ wr.heap.size; omega))
  refine ⟨k + 1, by omega, by go_num, ⟨_, ((hr1.set _ _).set _ _).set _ _, fun c hc => ?_⟩, ((hbl.setCell (Nat.le_refl _) _).setCell (Nat.le_refl _) _).setCell (Nat.le_refl _) _⟩
  rcases (show c < k * 3 ∨ c = k * 3 ∨ c = k * 3 + 1 ∨ c = k * 3 + 2 from by omega) with h | rfl | rfl | rfl
  · rw [if_neg (by omega), if_neg (by omega), if_neg (by omega)]; exact hf c h
  · rw [if_neg (by omega), if_neg (by omega), if_pos rfl, mcell0]; rfl
  · rw [if_neg (by omega), if_pos rfl, mcell1]; rfl
  · rw [if_pos rfl, mcell2]; rfl

set_option maxRecDepth 100000 in
set_option maxHeartbeats 1000000 in
theorem toMessages_any (a : Option Addr) (n c : Nat) (F T : Nat → ByteArray) (Q : Nat → Int) (w : World) (hn : n ≤ 1048576) (hnil : a = none → n = 0) (ha : MsgsAt w a n F T Q) :
    Calls Tryf.prog 13 #[.slice a n c] w (ToMsgsPost w n F T Q) := by
  have hmk := run_make_rows (P := Tryf.prog) 40 57 _ 3 48 Tryf.underlying40 Tryf.info57 .i64 .i64 n (by omega) (by omega)
  have heq := fun wx => Lib.run_eql_slice_nil (P := Tryf.prog) wx 23 60 a n c 0 0 Tryf.underlying23
  by_cases hz : a = none
  · subst hz
    obtain rfl := hnil rfl
    go_enter Tryf.func13, Tryf.ntmps13
    go_wp2
    go_ret
    exact ⟨none, rfl, Below.refl _ _, fun h => absurd h (by omega)⟩
  · have hs : a.isNone = false := by cases a <;> simp_all
    go_enter Tryf.func13, Tryf.ntmps13
    go_wp2
    go_loopw [4] (fun i wr => ∃ k : Nat, k ≤ n ∧ i = .int .i64 k ∧ (∃ f, wr.rowIs w.heap.size 57 (n * 3) f ∧ ∀ c, c < k * 3 → f c = mcell F T Q id c) ∧ Below w.heap.size w wr) (fun i _ => n - (intOf i).toNat)
    case atStart =>
      obtain ⟨f, hf⟩ := rowIs_madeMany w (Value.agg #[.string ByteArray.empty, .string ByteArray.empty, .nilIface]).cells (n * 3) 57
      exact ⟨0, Nat.zero_le _, rfl, ⟨f, hf, fun c hc => absurd hc (by omega)⟩, (Below.refl _ _).alloc (Nat.le_refl _) _⟩
    case round =>
      obtain ⟨k, hk, rfl, ⟨f, hrow, hf⟩, hbel⟩ := hrel
      by_cases hlt : k < n
      · obtain ⟨x, o, rfl, hc0, hc1, hc2⟩ := ha k hlt
        have hxne : w.heap.size ≠ x := Nat.ne_of_gt (World.block_lt_of_cell? w _ hc0)
        rw [← hbel.cell (World.block_lt_of_cell? w _ hc0)] at hc0
        rw [← hbel.cell (World.block_lt_of_cell? w _ hc1)] at hc1
        rw [← hbel.cell (World.block_lt_of_cell? w _ hc2)] at hc2
        have hrl := hrow.lt
        have hxl : x < wr.heap.size := World.block_lt_of_cell? wr _ hc0
        have d0 := hrow.cell (i := k * 3) (by omega)
        have d1 := hrow.cell (i := k * 3 + 1) (by omega)
        have d2 := hrow.cell (i := k * 3 + 2) (by omega)
        have f0 := hrow.frozen
        have HF : Hid (∀ c, c < k * 3 → f c = mcell F T Q id c) := hf
        have HB : Hid (Below w.heap.size w wr) := hbel
        have HR : Hid (wr.rowIs w.heap.size 57 (n * 3) f) := hrow
        clear ha hf hbel hrow
        have h1 : (k : Int) < (n : Int) := by omega
        go_wp2
        go_region_held3 (fun w' => w'.cell? ⟨x, o + k * 3, none⟩ = some (.string (F k)) ∧ w'.cell? ⟨x, o + k * 3 + 1, none⟩ = some (.string (T k)) ∧ w'.cell? ⟨x, o + k * 3 + 2, none⟩ = some (.int .i64 (Q k)))
          (go_keep)
          (first | (go_at_call 28; refine (zzMessage_any _ _ _ _).mono ?_; rintro e w1 ⟨rfl, hb1⟩; have e0 := later hb1 hc0; have e1 := later hb1 hc1; have e2 := later hb1 hc2; have e3 := later hb1 d0; have e4 := later hb1 d1; have e5 := later hb1 d2; have e6 := laterF hb1 hrl (k * 3) (f0 _); have e7 := laterF hb1 hrl (k * 3 + 1) (f0 _); have e8 := laterF hb1 hrl (k * 3 + 2) (f0 _)))
        all_goals
          go_wp2
          go_roundw
          case rel => exact msgs_step HF.out HR.out HB.out hb1 hlt
          case measure => simp [intOf]; omega
      · obtain rfl : k = n := by omega
        have HR : Hid (wr.rowIs w.heap.size 57 (k * 3) (mcell F T Q id)) := hrow.congr hf
        clear ha hrow hf
        go_wp2
        go_ret
        exact ⟨some ⟨w.heap.size, 0, none⟩, rfl, hbel, fun _ => ⟨w.heap.size, rfl, Nat.le_refl _, HR.out⟩⟩

end Go.Proofs.Qxb6608660aFmt

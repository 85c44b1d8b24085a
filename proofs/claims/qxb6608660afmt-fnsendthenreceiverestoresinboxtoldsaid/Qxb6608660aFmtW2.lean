import Derived.Test.Qxb6608660aFmtW1
import Derived.Deep.OwnRows
import Derived.Deep.RegionHeld3
namespace Go.Proofs.Qxb6608660aFmt
open Go.RowKit

theorem Tryf.info3 : (Tryf.prog.info? 3).map (fun i => (i.zero, i.size, i.bytes)) = some (some (.int .i64 0), 1, 8) := by kernel_rfl

/-- The first n cells at the address are the numbers Z. -/
def IntsAt (w : World) (a : Option Addr) (n : Nat) (Z : Nat → Int) : Prop :=
  ∀ i, i < n → ∃ x o, a = some ⟨x, o, none⟩ ∧ w.cell? ⟨x, o + i, none⟩ = some (.int .i64 (Z i))

theorem IntsAt.below {B : Nat} {w w' : World} {a : Option Addr} {n : Nat} {Z : Nat → Int} (h : IntsAt w a n Z) (hb : Below B w w') (hB : w.heap.size ≤ B) : IntsAt w' a n Z := by
  intro i hi
  obtain ⟨x, o, e, hc⟩ := h i hi
  have := World.block_lt_of_cell? w _ hc
  exact ⟨x, o, e, (hb.cell (by simp at this ⊢; omega)).trans hc⟩

/-- The same, the numbers lying in a block from B on. -/
def IntsFrom (B : Nat) (w : World) (a : Option Addr) (n : Nat) (Z : Nat → Int) : Prop :=
  ∀ i, i < n → ∃ x o, a = some ⟨x, o, none⟩ ∧ B ≤ x ∧ w.cell? ⟨x, o + i, none⟩ = some (.int .i64 (Z i))
theorem IntsFrom.at {B : Nat} {w : World} {a : Option Addr} {n : Nat} {Z : Nat → Int} (h : IntsFrom B w a n Z) : IntsAt w a n Z := fun i hi => by
  obtain ⟨x, o, e, _, hc⟩ := h i hi
  exact ⟨x, o, e, hc⟩
theorem IntsFrom.mono {B B' : Nat} {w : World} {a : Option Addr} {n : Nat} {Z : Nat → Int} (h : IntsFrom B w a n Z) (hB : B' ≤ B) : IntsFrom B' w a n Z := fun i hi => by
  obtain ⟨x, o, e, hx, hc⟩ := h i hi
  exact ⟨x, o, e, by omega, hc⟩
theorem IntsFrom.below {B B' : Nat} {w w' : World} {a : Option Addr} {n : Nat} {Z : Nat → Int} (h : IntsFrom B w a n Z) (hb : Below B' w w') (hB : w.heap.size ≤ B') : IntsFrom B w' a n Z := by
  intro i hi
  obtain ⟨x, o, e, hx, hc⟩ := h i hi
  have := World.block_lt_of_cell? w _ hc
  exact ⟨x, o, e, hx, (hb.cell (by simp at this ⊢; omega)).trans hc⟩
/-- A store elsewhere. -/
theorem IntsFrom.set {B : Nat} {w : World} {a : Option Addr} {n : Nat} {Z : Nat → Int} (h : IntsFrom B w a n Z) {p : Addr} (hp : p.block < B) (v : Value) : IntsFrom B (w.setCell p v) a n Z := by
  intro i hi
  obtain ⟨x, o, e, hx, hc⟩ := h i hi
  exact ⟨x, o, e, hx, by rw [World.cell?_setCell_other _ _ _ _ (fun e => by have := congrArg Addr.block e; simp at this; omega)]; exact hc⟩

def ClonePost (w : World) (a : Option Addr) (n : Nat) (Z : Nat → Int) (e : Ending) (w' : World) : Prop :=
  ∃ b m, e = .returned (.slice b n m) ∧ Below w.heap.size w w' ∧ (b = none ↔ a = none) ∧ IntsFrom w.heap.size w' b n Z

set_option maxRecDepth 100000 in
set_option maxHeartbeats 400000 in
theorem cloneInts_any (a : Option Addr) (n c : Nat) (Z : Nat → Int) (w : World) (hn : n ≤ 1048576) (hnil : a = none → n = 0)
    (ha : IntsAt w a n Z) :
    Calls Tryf.prog 26 #[.slice a n c] w (ClonePost w a n Z) := by
  have hmk := run_make_row' (P := Tryf.prog) 26 3 (.int .i64 0) 8 Tryf.underlying26 Tryf.info3 rfl .i64 .i64 n (by omega) (by omega)
  have heq := fun wx => Lib.run_eql_slice_nil (P := Tryf.prog) wx 26 3 a n c 0 0 Tryf.underlying26
  by_cases hz : a = none
  · subst hz
    obtain rfl := hnil rfl
    go_enter Tryf.func26, Tryf.ntmps26
    go_wp2
    go_ret
    exact ⟨none, 0, rfl, Below.refl _ _, Iff.rfl, fun i hi => absurd hi (by omega)⟩
  · have hs : a.isNone = false := by cases a <;> simp_all
    go_enter Tryf.func26, Tryf.ntmps26
    go_wp2
    go_loopw [4] (fun i wr => ∃ k : Nat, k ≤ n ∧ i = .int .i64 k ∧ wr.rowIs w.heap.size 3 n (fun j => if j < k then .int .i64 (Z j) else .int .i64 0) ∧ Below w.heap.size w wr) (fun i _ => n - (intOf i).toNat)
    case atStart => exact ⟨0, Nat.zero_le _, rfl, (World.rowIs_made w _ n 3).congr (fun i _ => by simp), (Below.refl _ _).alloc (Nat.le_refl _) _⟩
    case round =>
      obtain ⟨k, hk, rfl, hrow, hbel⟩ := hrel
      by_cases hlt : k < n
      · obtain ⟨x, o, rfl, hca⟩ := ha.below hbel (Nat.le_refl _) k hlt
        have hcur := hrow.cell hlt
        have hfz := hrow.frozen k
        have hrow' := hrow.set k (.int .i64 (Z k))
        have hbel' := hbel.setCell (p := ⟨w.heap.size, k, none⟩) (Nat.le_refl _) (.int .i64 (Z k))
        have HR := And.intro hrow' hbel'
        have HH : Hid ((wr.setCell ⟨w.heap.size, k, none⟩ (.int .i64 (Z k))).rowIs w.heap.size 3 n (fun j => if j < k + 1 then .int .i64 (Z j) else .int .i64 0) ∧ Below w.heap.size w (wr.setCell ⟨w.heap.size, k, none⟩ (.int .i64 (Z k)))) :=
          ⟨hrow'.congr (fun j _ => by by_cases e : j = k <;> simp [e]; by_cases e2 : j < k <;> simp [e2] <;> omega), hbel'⟩
        clear ha hrow hbel hrow' hbel' HR
        go_wp2
        go_roundw
        case rel => exact ⟨k + 1, by omega, by go_num, HH.out.1, HH.out.2⟩
        case measure => simp [intOf]; omega
      · obtain rfl : k = n := by omega
        have HH : Hid (IntsFrom w.heap.size wr (some ⟨w.heap.size, 0, none⟩) k Z) := fun i hi => ⟨w.heap.size, 0, rfl, Nat.le_refl _, by have := hrow.cell hi; simp [hi] at this; simpa using this⟩
        clear ha hrow
        go_wp2
        go_ret
        exact ⟨some ⟨w.heap.size, 0, none⟩, k, rfl, hbel, by simp [hz], HH.out⟩

end Go.Proofs.Qxb6608660aFmt

/- My own work on the program: callOutcome walked. -/
import Derived.Test.Qxb6614456aW13
namespace Go.Proofs.Qxb6614456a
open Go.RowKit
set_option linter.unusedVariables false
set_option linter.unusedSimpArgs false

theorem Try.info41 : (Try.prog.info? 41).map (fun i => (i.zero, i.size, i.bytes)) = some (some (.slice none 0 0), 1, 24) := by kernel_rfl
/-- The first k cells of a row. -/
def FillS (k : Nat) (S : Nat → ByteArray) (f : Nat → Value) : Prop := ∀ j, j < k → f j = .string (S j)
def FillI (k : Nat) (Z : Nat → Int) (f : Nat → Value) : Prop := ∀ j, j < k → f j = .int .i64 (Z j)
def FillV (k : Nat) (A : Nat → Option Addr) (L C : Nat → Nat) (f : Nat → Value) : Prop := ∀ j, j < k → f j = .slice (A j) (L j) (C j)
theorem FillS.step {k : Nat} {S : Nat → ByteArray} {f : Nat → Value} (h : FillS k S f) : FillS (k + 1) S (fun i => if i = k then .string (S k) else f i) := by
  intro j hj
  by_cases e : j = k
  · subst e; exact if_pos rfl
  · exact (if_neg e).trans (h j (by omega))
theorem FillI.step {k : Nat} {Z : Nat → Int} {f : Nat → Value} (h : FillI k Z f) : FillI (k + 1) Z (fun i => if i = k then .int .i64 (Z k) else f i) := by
  intro j hj
  by_cases e : j = k
  · subst e; exact if_pos rfl
  · exact (if_neg e).trans (h j (by omega))
theorem FillV.step {k : Nat} {A : Nat → Option Addr} {L C : Nat → Nat} {f : Nat → Value} (h : FillV k A L C f) : FillV (k + 1) A L C (fun i => if i = k then .slice (A k) (L k) (C k) else f i) := by
  intro j hj
  by_cases e : j = k
  · subst e; exact if_pos rfl
  · exact (if_neg e).trans (h j (by omega))
theorem FillS.strs {w : World} {B n : Nat} {S : Nat → ByteArray} {f : Nat → Value} {t : TypeId} (h : FillS n S f) (hr : w.rowIs B t n f) : StrsAt w (some ⟨B, 0, none⟩) n S := fun i hi =>
  ⟨B, 0, rfl, by rw [Nat.zero_add]; exact (hr.cell hi).trans (congrArg some (h i hi))⟩
theorem FillI.ints {w : World} {B n : Nat} {Z : Nat → Int} {f : Nat → Value} {t : TypeId} (h : FillI n Z f) (hr : w.rowIs B t n f) : IntsAt w (some ⟨B, 0, none⟩) n Z := fun i hi =>
  ⟨B, 0, rfl, by rw [Nat.zero_add]; exact (hr.cell hi).trans (congrArg some (h i hi))⟩
theorem FillV.texts {w : World} {B n : Nat} {A : Nat → Option Addr} {L C : Nat → Nat} {X : Nat → Nat → ByteArray} {f : Nat → Value} {t : TypeId} (h : FillV n A L C f) (hr : w.rowIs B t n f)
    (hx : ∀ j, j < n → StrsAt w (A j) (L j) (X j) ∧ L j ≤ 1048576) : TextsAt w (some ⟨B, 0, none⟩) n A L C X := fun i hi =>
  ⟨B, 0, rfl, by rw [Nat.zero_add]; exact (hr.cell hi).trans (congrArg some (h i hi)), (hx i hi).1, (hx i hi).2⟩
/-- A store into another block leaves a row. -/
theorem rowIs_other {w : World} {B B' n : Nat} {t : TypeId} {f : Nat → Value} (h : w.rowIs B t n f) (hne : B ≠ B') (o : Nat) (v : Value) : (w.setCell ⟨B', o, none⟩ v).rowIs B t n f :=
  h.of_block (Deep.blk_setCell_other _ _ _ _ hne)

/-- The four rows of the conditions, k of each filled. -/
structure Rows4 (w wr : World) (n k : Nat) (O K T : Nat → ByteArray) (I : Nat → Int) (f1 f2 f3 f4 : Nat → Value) : Prop where
  r0 : ∃ f, wr.rowIs w.heap.size 43 5 f
  r1 : wr.rowIs (w.heap.size + 1) 9 n f1
  r2 : wr.rowIs (w.heap.size + 2) 9 n f2
  r3 : wr.rowIs (w.heap.size + 3) 9 n f3
  r4 : wr.rowIs (w.heap.size + 4) 3 n f4
  s1 : FillS k O f1
  s2 : FillS k K f2
  s3 : FillS k T f3
  s4 : FillI k I f4
  bel : Below w.heap.size w wr
theorem Rows4.start {w : World} {n : Nat} {O K T : Nat → ByteArray} {I : Nat → Int} {z1 z2 z3 z4 c : Array Value} (hc : c.size = 5) :
    ∃ f1 f2 f3 f4, Rows4 w (((((w.alloc (.cells c 43)).alloc (.cells (madeCells z1 n) 9)).alloc (.cells (madeCells z2 n) 9)).alloc (.cells (madeCells z3 n) 9)).alloc (.cells (madeCells z4 n) 3)) n 0 O K T I f1 f2 f3 f4 := by
  obtain ⟨f1, h1⟩ := rowIs_madeMany (w.alloc (.cells c 43)) z1 n 9
  obtain ⟨f2, h2⟩ := rowIs_madeMany ((w.alloc (.cells c 43)).alloc (.cells (madeCells z1 n) 9)) z2 n 9
  obtain ⟨f3, h3⟩ := rowIs_madeMany (((w.alloc (.cells c 43)).alloc (.cells (madeCells z1 n) 9)).alloc (.cells (madeCells z2 n) 9)) z3 n 9
  obtain ⟨f4, h4⟩ := rowIs_madeMany ((((w.alloc (.cells c 43)).alloc (.cells (madeCells z1 n) 9)).alloc (.cells (madeCells z2 n) 9)).alloc (.cells (madeCells z3 n) 9)) z4 n 3
  have h0 := rowIs_lit w c 43
  rw [hc] at h0
  have e : ∀ (w : World) b, (w.alloc b).heap.size = w.heap.size + 1 := fun w b => by simp
  simp only [e] at h1 h2 h3 h4
  refine ⟨f1, f2, f3, f4, ⟨_, (((h0.alloc _).alloc _).alloc _).alloc _⟩, ((h1.alloc _).alloc _).alloc _, (h2.alloc _).alloc _, h3.alloc _, h4, ?_, ?_, ?_, ?_, ?_⟩
  · exact fun j hj => absurd hj (by omega)
  · exact fun j hj => absurd hj (by omega)
  · exact fun j hj => absurd hj (by omega)
  · exact fun j hj => absurd hj (by omega)
  · exact (((((Below.refl _ _).alloc (Nat.le_refl _) _).alloc (by simp only [e]; omega) _).alloc (by simp only [e]; omega) _).alloc (by simp only [e]; omega) _).alloc (by simp only [e]; omega) _
theorem Rows4.step {w wr : World} {n k : Nat} {O K T : Nat → ByteArray} {I : Nat → Int} {f1 f2 f3 f4 : Nat → Value} (h : Rows4 w wr n k O K T I f1 f2 f3 f4) :
    ∃ f1 f2 f3 f4, Rows4 w ((((wr.setCell ⟨w.heap.size + 1, k, none⟩ (.string (O k))).setCell ⟨w.heap.size + 2, k, none⟩ (.string (K k))).setCell ⟨w.heap.size + 3, k, none⟩ (.string (T k))).setCell ⟨w.heap.size + 4, k, none⟩ (.int .i64 (I k))) n (k + 1) O K T I f1 f2 f3 f4 := by
  obtain ⟨f, hf⟩ := h.r0
  exact ⟨_, _, _, _, ⟨f, rowIs_other (rowIs_other (rowIs_other (rowIs_other hf (by omega) _ _) (by omega) _ _) (by omega) _ _) (by omega) _ _⟩,
    rowIs_other (rowIs_other (rowIs_other (h.r1.set k _) (by omega) _ _) (by omega) _ _) (by omega) _ _,
    rowIs_other (rowIs_other ((rowIs_other h.r2 (by omega) _ _).set k _) (by omega) _ _) (by omega) _ _,
    rowIs_other ((rowIs_other (rowIs_other h.r3 (by omega) _ _) (by omega) _ _).set k _) (by omega) _ _,
    (rowIs_other (rowIs_other (rowIs_other h.r4 (by omega) _ _) (by omega) _ _) (by omega) _ _).set k _,
    h.s1.step, h.s2.step, h.s3.step, h.s4.step,
    ((((h.bel.setCell (p := ⟨w.heap.size + 1, k, none⟩) (by simp) _).setCell (p := ⟨w.heap.size + 2, k, none⟩) (by simp) _).setCell (p := ⟨w.heap.size + 3, k, none⟩) (by simp) _).setCell (p := ⟨w.heap.size + 4, k, none⟩) (by simp) _)⟩

/-- The three rows of the facts, at B, k of each filled. -/
structure Rows3 (V wr : World) (m k : Nat) (FI : Nat → Int) (FT : Nat → ByteArray) (A : Nat → Option Addr) (L C : Nat → Nat) (f1 f2 f3 : Nat → Value) : Prop where
  r1 : wr.rowIs V.heap.size 3 m f1
  r2 : wr.rowIs (V.heap.size + 1) 9 m f2
  r3 : wr.rowIs (V.heap.size + 2) 41 m f3
  s1 : FillI k FI f1
  s2 : FillS k FT f2
  s3 : FillV k A L C f3
  bel : Below V.heap.size V wr
theorem Rows3.start {w : World} {n : Nat} {FI : Nat → Int} {FT : Nat → ByteArray} {A : Nat → Option Addr} {L C : Nat → Nat} {z1 z2 z3 : Array Value} :
    ∃ f1 f2 f3, Rows3 w (((w.alloc (.cells (madeCells z1 n) 3)).alloc (.cells (madeCells z2 n) 9)).alloc (.cells (madeCells z3 n) 41)) n 0 FI FT A L C f1 f2 f3 := by
  obtain ⟨f1, h1⟩ := rowIs_madeMany w z1 n 3
  obtain ⟨f2, h2⟩ := rowIs_madeMany (w.alloc (.cells (madeCells z1 n) 3)) z2 n 9
  obtain ⟨f3, h3⟩ := rowIs_madeMany ((w.alloc (.cells (madeCells z1 n) 3)).alloc (.cells (madeCells z2 n) 9)) z3 n 41
  have e : ∀ (w : World) b, (w.alloc b).heap.size = w.heap.size + 1 := fun w b => by simp
  simp only [e] at h1 h2 h3
  refine ⟨f1, f2, f3, (h1.alloc _).alloc _, h2.alloc _, h3, ?_, ?_, ?_, ?_⟩
  · exact fun j hj => absurd hj (by omega)
  · exact fun j hj => absurd hj (by omega)
  · exact fun j hj => absurd hj (by omega)
  · exact (((Below.refl _ _).alloc (Nat.le_refl _) _).alloc (by simp only [e]; omega) _).alloc (by simp only [e]; omega) _
theorem Rows3.step {V wr : World} {m k : Nat} {FI : Nat → Int} {FT : Nat → ByteArray} {A : Nat → Option Addr} {L C : Nat → Nat} {f1 f2 f3 : Nat → Value} (h : Rows3 V wr m k FI FT A L C f1 f2 f3) :
    ∃ f1 f2 f3, Rows3 V (((wr.setCell ⟨V.heap.size, k, none⟩ (.int .i64 (FI k))).setCell ⟨V.heap.size + 1, k, none⟩ (.string (FT k))).setCell ⟨V.heap.size + 2, k, none⟩ (.slice (A k) (L k) (C k))) m (k + 1) FI FT A L C f1 f2 f3 := by
  exact ⟨_, _, _, rowIs_other (rowIs_other (h.r1.set k _) (by omega) _ _) (by omega) _ _,
    rowIs_other ((rowIs_other h.r2 (by omega) _ _).set k _) (by omega) _ _,
    (rowIs_other (rowIs_other h.r3 (by omega) _ _) (by omega) _ _).set k _,
    h.s1.step, h.s2.step, h.s3.step,
    (((h.bel.setCell (p := ⟨V.heap.size, k, none⟩) (by simp) _).setCell (p := ⟨V.heap.size + 1, k, none⟩) (by simp) _).setCell (p := ⟨V.heap.size + 2, k, none⟩) (by simp) _)⟩
end Go.Proofs.Qxb6614456a

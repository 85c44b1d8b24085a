/- My own work on the program: what comes in; zzBytes, addBytes, outcomeBytesFit. -/
import Derived.Test.Qxb6614456aProg
import Derived.WalkKit
import Derived.WalkSpells
import Derived.WalkLawsBesides
import Derived.Deep.QuietTactic
import Derived.BigQuiet
import Derived.Deep.OwnRows
import Derived.Deep.RegionHeld3
import Derived.Below
import Derived.Handy
namespace Go.Proofs.Qxb6614456a
open Go.RowKit
set_option linter.unusedVariables false
set_option linter.unusedSimpArgs false

/-- The elements of a slice of strings. -/
def StrsAt (w : World) (a : Option Addr) (n : Nat) (S : Nat → ByteArray) : Prop :=
  ∀ i, i < n → ∃ x o, a = some ⟨x, o, none⟩ ∧ w.cell? ⟨x, o + i, none⟩ = some (.string (S i))
theorem StrsAt.below {B : Nat} {w w' : World} {a : Option Addr} {n : Nat} {S : Nat → ByteArray} (h : StrsAt w a n S) (hb : Below B w w') (hB : w.heap.size ≤ B) : StrsAt w' a n S := by
  intro i hi
  obtain ⟨x, o, e, h1⟩ := h i hi
  have := World.block_lt_of_cell? w _ h1
  exact ⟨x, o, e, (hb.cell (by simp at this ⊢; omega)).trans h1⟩
/-- The elements of a slice of numbers. -/
def IntsAt (w : World) (a : Option Addr) (n : Nat) (Z : Nat → Int) : Prop :=
  ∀ i, i < n → ∃ x o, a = some ⟨x, o, none⟩ ∧ w.cell? ⟨x, o + i, none⟩ = some (.int .i64 (Z i))
theorem IntsAt.below {B : Nat} {w w' : World} {a : Option Addr} {n : Nat} {Z : Nat → Int} (h : IntsAt w a n Z) (hb : Below B w w') (hB : w.heap.size ≤ B) : IntsAt w' a n Z := by
  intro i hi
  obtain ⟨x, o, e, h1⟩ := h i hi
  have := World.block_lt_of_cell? w _ h1
  exact ⟨x, o, e, (hb.cell (by simp at this ⊢; omega)).trans h1⟩
/-- The conditions that came in. -/
def CondsAt (w : World) (a : Option Addr) (n : Nat) (O K T : Nat → ByteArray) (I : Nat → Int) : Prop :=
  ∀ i, i < n → ∃ x o, a = some ⟨x, o, none⟩ ∧ w.cell? ⟨x, o + i * 4, none⟩ = some (.string (O i)) ∧ w.cell? ⟨x, o + i * 4 + 1, none⟩ = some (.string (K i)) ∧
    w.cell? ⟨x, o + i * 4 + 2, none⟩ = some (.string (T i)) ∧ w.cell? ⟨x, o + i * 4 + 3, none⟩ = some (.int .i64 (I i))
theorem CondsAt.below {B : Nat} {w w' : World} {a : Option Addr} {n : Nat} {O K T : Nat → ByteArray} {I : Nat → Int} (h : CondsAt w a n O K T I) (hb : Below B w w') (hB : w.heap.size ≤ B) : CondsAt w' a n O K T I := by
  intro i hi
  obtain ⟨x, o, e, h1, h2, h3, h4⟩ := h i hi
  have := World.block_lt_of_cell? w _ h1
  simp at this
  exact ⟨x, o, e, (hb.cell (by simp; omega)).trans h1, (hb.cell (by simp; omega)).trans h2, (hb.cell (by simp; omega)).trans h3, (hb.cell (by simp; omega)).trans h4⟩
/-- The facts that came in. -/
def FactsAt (w : World) (a : Option Addr) (m : Nat) (I : Nat → Int) (T : Nat → ByteArray) (A : Nat → Option Addr) (L C : Nat → Nat) (X : Nat → Nat → ByteArray) : Prop :=
  ∀ i, i < m → ∃ x o, a = some ⟨x, o, none⟩ ∧ w.cell? ⟨x, o + i * 3, none⟩ = some (.int .i64 (I i)) ∧ w.cell? ⟨x, o + i * 3 + 1, none⟩ = some (.string (T i)) ∧
    w.cell? ⟨x, o + i * 3 + 2, none⟩ = some (.slice (A i) (L i) (C i)) ∧ StrsAt w (A i) (L i) (X i) ∧ L i ≤ maxLen
theorem FactsAt.below {B : Nat} {w w' : World} {a : Option Addr} {m : Nat} {I : Nat → Int} {T : Nat → ByteArray} {A : Nat → Option Addr} {L C : Nat → Nat} {X : Nat → Nat → ByteArray} (h : FactsAt w a m I T A L C X) (hb : Below B w w') (hB : w.heap.size ≤ B) : FactsAt w' a m I T A L C X := by
  intro i hi
  obtain ⟨x, o, e, h1, h2, h3, h4, h5⟩ := h i hi
  have := World.block_lt_of_cell? w _ h1
  simp at this
  exact ⟨x, o, e, (hb.cell (by simp; omega)).trans h1, (hb.cell (by simp; omega)).trans h2, (hb.cell (by simp; omega)).trans h3, h4.below hb hB, h5⟩

/-- Some bool; where it is true, bd holds; nothing turned. -/
def ZzPost (bd : Prop) (w : World) (e : Ending) (w' : World) : Prop := ∃ b, e = .returned (.bool b) ∧ w = w' ∧ (b = true → bd)
theorem zz_no {bd : Prop} {w : World} : ZzPost bd w (.returned (.bool false)) w := ⟨false, rfl, rfl, by simp⟩

/-- What addBytes answers: some number, some bool. -/
def AddPost (w : World) (e : Ending) (w' : World) : Prop := ∃ r b, e = .returned (.tuple #[.int .i64 r, .bool b]) ∧ w' = w
theorem addBytes_any (n l : Int) (w : World) : Calls Try.prog 24 #[.int .i64 n, .int .i64 l] w (AddPost w) := by
  by_cases h : wrap64 (1048576 - n) < l
  · go_enter Try.func24, Try.ntmps24
    go_wp2
    exact bodyPost_ret (v := .tuple #[.int .i64 n, .bool false]) (by simp [results, Try.results24, go_sem]) rfl ⟨n, false, rfl, rfl⟩
  · go_enter Try.func24, Try.ntmps24
    go_wp2
    exact bodyPost_ret (v := .tuple #[.int .i64 (wrap64 (n + l)), .bool true]) (by simp [results, Try.results24, go_sem]) rfl ⟨_, true, rfl, rfl⟩
end Go.Proofs.Qxb6614456a

/- My own work on the program: the arguments opened. -/
import Derived.Test.Qxb6614456aW1
import Derived.Deep.Strs
import Derived.ProofKit
import Derived.Lib.SmallJoins
namespace Go.Proofs.Qxb6614456a
open Go.RowKit Go.ChangeShapes Go.WideShapes Go.Deep Go.Joins
set_option linter.unusedVariables false

theorem Try.cells48 : Try.prog.cellsOf 48 = 4 := by kernel_rfl
theorem Try.cells56 : Try.prog.cellsOf 56 = 3 := by kernel_rfl
theorem Try.cells9 : Try.prog.cellsOf 9 = 1 := by kernel_rfl
theorem Try.cells3 : Try.prog.cellsOf 3 = 1 := by kernel_rfl
theorem Try.cells41 : Try.prog.cellsOf 41 = 1 := by kernel_rfl

theorem list3 {α : Type} {l : List α} (h : l.length = 3) : ∃ a b c, l = [a, b, c] := by
  match l, h with
  | [a, b, c], _ => exact ⟨a, b, c, rfl⟩
theorem list4 {α : Type} {l : List α} (h : l.length = 4) : ∃ a b c d, l = [a, b, c, d] := by
  match l, h with
  | [a, b, c, d], _ => exact ⟨a, b, c, d, rfl⟩

set_option maxRecDepth 100000 in
theorem open_conds {H : Type} {enc : TypeId × Value → H} {W : World} {fuel : Nat} {a0 : Option Addr} {n c0 : Nat} {x : DataW H × List MemPlace}
    (hf : DataW.trod enc Try.prog W 0 (fun _ => true) true fuel 36 [.slice a0 n c0] = some x) :
    n ≤ maxLen ∧ ∃ O K T I, CondsAt W a0 n O K T I ∧ ∀ i, i < n → (T i).size ≤ maxLen := by
  rcases open_slice Try.underlying36 hf with ⟨hcs, _⟩ | ⟨a, len, cap, m, k, D, Pl, hcs, hb, hl, hm, hmm, _, hx⟩
  · simp at hcs
    obtain ⟨rfl, rfl, rfl⟩ := hcs
    exact ⟨Nat.zero_le _, fun _ => ByteArray.empty, fun _ => ByteArray.empty, fun _ => ByteArray.empty, fun _ => 0, fun i hi => absurd hi (by omega), fun i hi => absurd hi (by omega)⟩
  · simp at hcs
    obtain ⟨rfl, rfl, rfl⟩ := hcs
    simp at hmm
    subst hmm
    refine ⟨by omega, ?_⟩
    have each : ∀ i, i < n → ∃ q : ByteArray × ByteArray × ByteArray × Int, W.cell? (a.add (i * 4)) = some (.string q.1) ∧ W.cell? (a.add (i * 4 + 1)) = some (.string q.2.1) ∧ W.cell? (a.add (i * 4 + 2)) = some (.string q.2.2.1) ∧ W.cell? (a.add (i * 4 + 3)) = some (.int .i64 q.2.2.2) ∧ q.2.2.1.size ≤ maxLen := by
      intro i hi
      obtain ⟨cs', h1, h2⟩ := hx i (by omega)
      rw [Try.cells48] at h1
      obtain ⟨_, hlen, hcell⟩ := World.cells?_some h1
      obtain ⟨y0, y1, y2, y3, _, _, _, t0, t1, t2, t3⟩ := trod_struct4 Try.underlying48 h2
      obtain ⟨v0, v1, v2, v3, rfl⟩ := list4 hlen
      simp only [Try.cells9, Try.cells3] at t0 t1 t2 t3
      obtain ⟨s0, e0, _, _⟩ := DataW.trod_string Try.underlying9 t0
      obtain ⟨s1, e1, _, _⟩ := DataW.trod_string Try.underlying9 t1
      obtain ⟨s2, e2, _, hs2⟩ := DataW.trod_string Try.underlying9 t2
      obtain ⟨z, e3, _, _⟩ := DataW.trod_int Try.underlying3 t3
      simp at e0 e1 e2 e3
      subst e0 e1 e2 e3
      have g0 := hcell 0 (by omega)
      have g1 := hcell 1 (by omega)
      have g2 := hcell 2 (by omega)
      have g3 := hcell 3 (by omega)
      rw [add_add] at g0 g1 g2 g3
      exact ⟨(s0, s1, s2, z), by simpa using g0, by simpa using g1, by simpa using g2, by simpa using g3, hs2⟩
    obtain ⟨q, hq⟩ := choose_lt each
    refine ⟨fun i => (q i).1, fun i => (q i).2.1, fun i => (q i).2.2.1, fun i => (q i).2.2.2, fun i hi => ?_, fun i hi => (hq i hi).2.2.2.2⟩
    obtain ⟨b, off, spot⟩ := a
    have hspot : spot = none := by simpa [Addr.add] using World.cell?_spot (hq 0 (by omega)).1
    subst hspot
    obtain ⟨h1, h2, h3, h4, _⟩ := hq i hi
    rw [add_plain] at h1 h2 h3 h4
    exact ⟨b, off, rfl, h1, h2, h3, h4⟩

theorem open_strs' {H : Type} {enc : TypeId × Value → H} {W : World} {fuel : Nat} {v : Value} {x : DataW H × List MemPlace}
    (hf : DataW.trod enc Try.prog W 0 (fun _ => true) true fuel 41 [v] = some x) :
    ∃ a n c S, v = .slice a n c ∧ n ≤ maxLen ∧ StrsAt W a n S := by
  rcases open_strs Try.underlying41 Try.underlying9 Try.cells9 hf with ⟨hcs, _⟩ | ⟨x, l, cp, m, Sx, hcs, _, hl, hm, hmm, _, hcell⟩
  · simp at hcs
    subst hcs
    exact ⟨none, 0, 0, fun _ => ByteArray.empty, rfl, Nat.zero_le _, fun i hi => absurd hi (by omega)⟩
  · simp at hcs
    subst hcs
    simp at hmm
    subst hmm
    refine ⟨some x, l, m, Sx, rfl, by omega, fun i hi => ?_⟩
    obtain ⟨b, off, spot⟩ := x
    have hspot : spot = none := by simpa [Addr.add] using World.cell?_spot (hcell 0 (by omega)).1
    subst hspot
    have := (hcell i (by omega)).1
    rw [add_plain] at this
    exact ⟨b, off, rfl, this⟩

set_option maxRecDepth 100000 in
theorem open_facts {H : Type} {enc : TypeId × Value → H} {W : World} {fuel : Nat} {a0 : Option Addr} {n c0 : Nat} {x : DataW H × List MemPlace}
    (hf : DataW.trod enc Try.prog W 0 (fun _ => true) true fuel 37 [.slice a0 n c0] = some x) :
    n ≤ maxLen ∧ ∃ I T A L C X, FactsAt W a0 n I T A L C X ∧ ∀ i, i < n → (T i).size ≤ maxLen := by
  rcases open_slice Try.underlying37 hf with ⟨hcs, _⟩ | ⟨a, len, cap, m, k, D, Pl, hcs, hb, hl, hm, hmm, _, hx⟩
  · simp at hcs
    obtain ⟨rfl, rfl, rfl⟩ := hcs
    exact ⟨Nat.zero_le _, fun _ => 0, fun _ => ByteArray.empty, fun _ => none, fun _ => 0, fun _ => 0, fun _ _ => ByteArray.empty, fun i hi => absurd hi (by omega), fun i hi => absurd hi (by omega)⟩
  · simp at hcs
    obtain ⟨rfl, rfl, rfl⟩ := hcs
    simp at hmm
    subst hmm
    refine ⟨by omega, ?_⟩
    have each : ∀ i, i < n → ∃ q : Int × ByteArray × Option Addr × Nat × Nat × (Nat → ByteArray), W.cell? (a.add (i * 3)) = some (.int .i64 q.1) ∧ W.cell? (a.add (i * 3 + 1)) = some (.string q.2.1) ∧ W.cell? (a.add (i * 3 + 2)) = some (.slice q.2.2.1 q.2.2.2.1 q.2.2.2.2.1) ∧ StrsAt W q.2.2.1 q.2.2.2.1 q.2.2.2.2.2 ∧ q.2.2.2.1 ≤ maxLen ∧ q.2.1.size ≤ maxLen := by
      intro i hi
      obtain ⟨cs', h1, h2⟩ := hx i (by omega)
      rw [Try.cells56] at h1
      obtain ⟨_, hlen, hcell⟩ := World.cells?_some h1
      obtain ⟨y0, y1, y2, _, _, _, t0, t1, t2⟩ := trod_struct3 Try.underlying56 h2
      obtain ⟨v0, v1, v2, rfl⟩ := list3 hlen
      simp only [Try.cells9, Try.cells3, Try.cells41] at t0 t1 t2
      obtain ⟨z, e0, _, _⟩ := DataW.trod_int Try.underlying3 t0
      obtain ⟨s1, e1, _, hs1⟩ := DataW.trod_string Try.underlying9 t1
      simp at e0 e1
      subst e0 e1
      obtain ⟨aa, la, ca, S, e2, hla, hS⟩ := open_strs' (by simpa using t2)
      subst e2
      have g0 := hcell 0 (by omega)
      have g1 := hcell 1 (by omega)
      have g2 := hcell 2 (by omega)
      rw [add_add] at g0 g1 g2
      exact ⟨(z, s1, aa, la, ca, S), by simpa using g0, by simpa using g1, by simpa using g2, hS, hla, hs1⟩
    obtain ⟨q, hq⟩ := choose_lt each
    refine ⟨fun i => (q i).1, fun i => (q i).2.1, fun i => (q i).2.2.1, fun i => (q i).2.2.2.1, fun i => (q i).2.2.2.2.1, fun i => (q i).2.2.2.2.2, fun i hi => ?_, fun i hi => (hq i hi).2.2.2.2.2⟩
    obtain ⟨b, off, spot⟩ := a
    have hspot : spot = none := by simpa [Addr.add] using World.cell?_spot (hq 0 (by omega)).1
    subst hspot
    obtain ⟨h1, h2, h3, h4, h5, _⟩ := hq i hi
    rw [add_plain] at h1 h2 h3
    exact ⟨b, off, rfl, h1, h2, h3, h4, h5⟩
end Go.Proofs.Qxb6614456a

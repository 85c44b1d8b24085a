/- My own work on the program: the arguments opened. -/
import Derived.Test.Qxb6608660aFmtW25
import Derived.Deep.Strs
import Derived.Deep.SlicePairs
import Derived.ProofKit
namespace Go.Proofs.Qxb6608660aFmt
open Go.RowKit Go.ChangeShapes Go.WideShapes Go.Deep
set_option linter.unusedVariables false

theorem Tryf.cells60 : Tryf.prog.cellsOf 60 = 3 := by kernel_rfl
theorem Tryf.cells62 : Tryf.prog.cellsOf 62 = 2 := by kernel_rfl
theorem Tryf.cells70 : Tryf.prog.cellsOf 70 = 2 := by kernel_rfl
theorem Tryf.cells9 : Tryf.prog.cellsOf 9 = 1 := by kernel_rfl
theorem Tryf.cells3 : Tryf.prog.cellsOf 3 = 1 := by kernel_rfl
theorem Tryf.cells26 : Tryf.prog.cellsOf 26 = 1 := by kernel_rfl

theorem list3 {α : Type} {l : List α} (h : l.length = 3) : ∃ a b c, l = [a, b, c] := by
  match l, h with
  | [a, b, c], _ => exact ⟨a, b, c, rfl⟩

set_option maxRecDepth 100000 in
theorem open_msgs {H : Type} {enc : TypeId × Value → H} {W : World} {fuel : Nat} {a0 : Option Addr} {n c0 : Nat} {x : DataW H × List MemPlace}
    (hf : DataW.trod enc Tryf.prog W 0 (fun _ => true) true fuel 23 [.slice a0 n c0] = some x) :
    (a0 = none → n = 0) ∧ n ≤ maxLen ∧ ∃ F T Q, MsgsAt W a0 n F T Q := by
  rcases open_slice Tryf.underlying23 hf with ⟨hcs, _⟩ | ⟨a, len, cap, m, k, D, Pl, hcs, hb, hl, hm, hmm, _, hx⟩
  · simp at hcs
    obtain ⟨rfl, rfl, rfl⟩ := hcs
    exact ⟨fun _ => rfl, Nat.zero_le _, fun _ => ByteArray.empty, fun _ => ByteArray.empty, fun _ => 0, fun i hi => absurd hi (by omega)⟩
  · simp at hcs
    obtain ⟨rfl, rfl, rfl⟩ := hcs
    simp at hmm
    subst hmm
    refine ⟨fun h => (by cases h), by omega, ?_⟩
    have each : ∀ i, i < n → ∃ q : ByteArray × ByteArray × Int, W.cell? (a.add (i * 3)) = some (.string q.1) ∧ W.cell? (a.add (i * 3 + 1)) = some (.string q.2.1) ∧ W.cell? (a.add (i * 3 + 2)) = some (.int .i64 q.2.2) := by
      intro i hi
      obtain ⟨cs', h1, h2⟩ := hx i (by omega)
      rw [Tryf.cells60] at h1
      obtain ⟨_, hlen, hcell⟩ := World.cells?_some h1
      obtain ⟨y0, y1, y2, _, _, _, t0, t1, t2⟩ := trod_struct3 Tryf.underlying60 h2
      obtain ⟨v0, v1, v2, rfl⟩ := list3 hlen
      simp only [Tryf.cells9, Tryf.cells3] at t0 t1 t2
      obtain ⟨s0, e0, _, _⟩ := DataW.trod_string Tryf.underlying9 t0
      obtain ⟨s1, e1, _, _⟩ := DataW.trod_string Tryf.underlying9 t1
      obtain ⟨z, e2, _, _⟩ := DataW.trod_int Tryf.underlying3 t2
      simp at e0 e1 e2
      subst e0 e1 e2
      have g0 := hcell 0 (by omega)
      have g1 := hcell 1 (by omega)
      have g2 := hcell 2 (by omega)
      rw [add_add] at g0 g1 g2
      exact ⟨(s0, s1, z), by simpa using g0, by simpa using g1, by simpa using g2⟩
    obtain ⟨q, hq⟩ := choose_lt each
    refine ⟨fun i => (q i).1, fun i => (q i).2.1, fun i => (q i).2.2, fun i hi => ?_⟩
    obtain ⟨b, off, spot⟩ := a
    have hspot : spot = none := by simpa [Addr.add] using World.cell?_spot (hq 0 (by omega)).1
    subst hspot
    obtain ⟨h1, h2, h3⟩ := hq i hi
    rw [add_plain] at h1 h2 h3
    exact ⟨b, off, rfl, h1, h2, h3⟩

theorem open_ints' {H : Type} {enc : TypeId × Value → H} {W : World} {fuel : Nat} {a : Option Addr} {n c : Nat} {x : DataW H × List MemPlace}
    (hf : DataW.trod enc Tryf.prog W 0 (fun _ => true) true fuel 26 [.slice a n c] = some x) :
    (a = none → n = 0) ∧ n ≤ maxLen ∧ ∃ Z, IntsAt W a n Z := by
  rcases open_ints Tryf.underlying26 Tryf.underlying3 Tryf.cells3 hf with ⟨hcs, _⟩ | ⟨x, l, cp, zs, hcs, _, hl, hm, hz, _, hcell, hwz⟩
  · simp at hcs
    obtain ⟨rfl, rfl, rfl⟩ := hcs
    exact ⟨fun _ => rfl, Nat.zero_le _, fun _ => 0, fun i hi => absurd hi (by omega)⟩
  · simp at hcs
    obtain ⟨rfl, rfl, rfl⟩ := hcs
    simp at hz
    refine ⟨fun h => (by cases h), by omega, fun i => zs.getD i 0, fun i hi => ?_⟩
    obtain ⟨b, off, spot⟩ := x
    have hspot : spot = none := by simpa [Addr.add] using World.cell?_spot (hcell 0 (by omega))
    subst hspot
    have := hcell i (by omega)
    rw [add_plain] at this
    exact ⟨b, off, rfl, this⟩

set_option maxRecDepth 100000 in
theorem open_stamps {H : Type} {enc : TypeId × Value → H} {W : World} {fuel : Nat} {a0 : Option Addr} {n c0 : Nat} {x : DataW H × List MemPlace}
    (hf : DataW.trod enc Tryf.prog W 0 (fun _ => true) true fuel 24 [.slice a0 n c0] = some x) :
    (a0 = none → n = 0) ∧ n ≤ maxLen ∧ ∃ A L C Z N, StampsAt W a0 n A L C Z N := by
  rcases open_slice_pairs Tryf.underlying24 Tryf.underlying62 Tryf.cells62 rfl rfl Tryf.cells26 Tryf.cells3 hf with ⟨hcs, _⟩ | ⟨a, len, cap, m, k, V0, V1, D0, D1, P0, P1, hcs, hb, hl, hm, hmm, _, hx⟩
  · simp at hcs
    obtain ⟨rfl, rfl, rfl⟩ := hcs
    exact ⟨fun _ => rfl, Nat.zero_le _, fun _ => none, fun _ => 0, fun _ => 0, fun _ _ => 0, fun _ => 0, fun i hi => absurd hi (by omega)⟩
  · simp at hcs
    obtain ⟨rfl, rfl, rfl⟩ := hcs
    simp at hmm
    subst hmm
    refine ⟨fun h => (by cases h), by omega, ?_⟩
    have each : ∀ i, i < n → ∃ q : Option Addr × Nat × Nat × (Nat → Int) × Int, W.cell? (a.add (i * 2)) = some (.slice q.1 q.2.1 q.2.2.1) ∧ W.cell? (a.add (i * 2 + 1)) = some (.int .i64 q.2.2.2.2) ∧ IntsAt W q.1 q.2.1 q.2.2.2.1 ∧ (q.1 = none → q.2.1 = 0) := by
      intro i hi
      obtain ⟨h1, h2, h3, h4⟩ := hx i (by omega)
      obtain ⟨z, e2, _, _⟩ := DataW.trod_int Tryf.underlying3 h4
      simp at e2
      obtain ⟨aa, la, ca, ea⟩ : ∃ aa la ca, V0 i = .slice aa la ca := by
        rcases open_ints Tryf.underlying26 Tryf.underlying3 Tryf.cells3 h3 with ⟨hcs, _⟩ | ⟨x, l, cp, zs, hcs, _⟩
        · simp at hcs; exact ⟨_, _, _, hcs⟩
        · simp at hcs; exact ⟨_, _, _, hcs⟩
      rw [ea] at h3 h1
      rw [e2] at h2
      obtain ⟨g1, g2, Z, g3⟩ := open_ints' h3
      exact ⟨(aa, la, ca, Z, z), h1, h2, g3, g1⟩
    obtain ⟨q, hq⟩ := choose_lt each
    refine ⟨fun i => (q i).1, fun i => (q i).2.1, fun i => (q i).2.2.1, fun i => (q i).2.2.2.1, fun i => (q i).2.2.2.2, fun i hi => ?_⟩
    obtain ⟨b, off, spot⟩ := a
    have hspot : spot = none := by simpa [Addr.add] using World.cell?_spot (hq 0 (by omega)).1
    subst hspot
    obtain ⟨h1, h2, h3, h4⟩ := hq i hi
    rw [add_plain] at h1 h2
    exact ⟨b, off, rfl, h1, h2, h3, h4⟩


theorem open_names {H : Type} {enc : TypeId × Value → H} {W : World} {fuel : Nat} {a : Option Addr} {n c : Nat} {x : DataW H × List MemPlace}
    (hf : DataW.trod enc Tryf.prog W 0 (fun _ => true) true fuel 22 [.slice a n c] = some x) : (a = none → n = 0) ∧ n ≤ maxLen ∧ ∃ S, StrsAt W a n S := by
  rcases open_strs Tryf.underlying22 Tryf.underlying9 Tryf.cells9 hf with ⟨hcs, _⟩ | ⟨x, l, cp, m, Sx, hcs, _, hl, hm, hmm, _, hcell⟩
  · simp at hcs
    obtain ⟨rfl, rfl, rfl⟩ := hcs
    exact ⟨fun _ => rfl, Nat.zero_le _, fun _ => ByteArray.empty, fun i hi => absurd hi (by omega)⟩
  · simp at hcs
    obtain ⟨rfl, rfl, rfl⟩ := hcs
    simp at hmm
    subst hmm
    refine ⟨fun h => (by cases h), by omega, Sx, fun i hi => ?_⟩
    obtain ⟨b, off, spot⟩ := x
    have hspot : spot = none := by simpa [Addr.add] using World.cell?_spot (hcell 0 (by omega)).1
    subst hspot
    have := hcell i (by omega)
    rw [add_plain] at this
    exact ⟨b, off, rfl, this.1, this.2⟩

theorem open_outs {H : Type} {enc : TypeId × Value → H} {W : World} {fuel : Nat} {a0 : Option Addr} {n c0 : Nat} {x : DataW H × List MemPlace}
    (hf : DataW.trod enc Tryf.prog W 0 (fun _ => true) true fuel 64 [.slice a0 n c0] = some x) : n ≤ maxLen ∧ ∃ T Q, OutsAt W a0 n T Q := by
  rcases open_slice_pairs Tryf.underlying64 Tryf.underlying70 Tryf.cells70 rfl rfl Tryf.cells9 Tryf.cells3 hf with ⟨hcs, _⟩ | ⟨a, len, cap, m, k, V0, V1, D0, D1, P0, P1, hcs, hb, hl, hm, hmm, _, hx⟩
  · simp at hcs
    obtain ⟨rfl, rfl, rfl⟩ := hcs
    exact ⟨Nat.zero_le _, fun _ => ByteArray.empty, fun _ => 0, fun i hi => absurd hi (by omega)⟩
  · simp at hcs
    obtain ⟨rfl, rfl, rfl⟩ := hcs
    simp at hmm
    subst hmm
    refine ⟨by omega, ?_⟩
    have each : ∀ i, i < n → ∃ q : ByteArray × Int, W.cell? (a.add (i * 2)) = some (.string q.1) ∧ W.cell? (a.add (i * 2 + 1)) = some (.int .i64 q.2) ∧ q.1.size ≤ maxLen := by
      intro i hi
      obtain ⟨h1, h2, h3, h4⟩ := hx i (by omega)
      obtain ⟨z, e2, _, _⟩ := DataW.trod_int Tryf.underlying3 h4
      obtain ⟨s, e1, _, hs⟩ := DataW.trod_string Tryf.underlying9 h3
      simp at e1 e2
      rw [e1] at h1
      rw [e2] at h2
      exact ⟨(s, z), h1, h2, hs⟩
    obtain ⟨q, hq⟩ := choose_lt each
    refine ⟨fun i => (q i).1, fun i => (q i).2, fun i hi => ?_⟩
    obtain ⟨b, off, spot⟩ := a
    have hspot : spot = none := by simpa [Addr.add] using World.cell?_spot (hq 0 (by omega)).1
    subst hspot
    obtain ⟨h1, h2, h3⟩ := hq i hi
    rw [add_plain] at h1 h2
    exact ⟨b, off, rfl, h1, h2, h3⟩

theorem open_rows {H : Type} {enc : TypeId × Value → H} {W : World} {fuel : Nat} {a0 : Option Addr} {n c0 : Nat} {x : DataW H × List MemPlace}
    (hf : DataW.trod enc Tryf.prog W 0 (fun _ => true) true fuel 25 [.slice a0 n c0] = some x) : n ≤ maxLen ∧ ∃ A L C Z, RowsAt W a0 n A L C Z := by
  rcases open_slice1 Tryf.underlying25 Tryf.cells26 hf with ⟨hcs, _⟩ | ⟨a, len, cap, m, k, V, D, Pl, hcs, hb, hl, hm, hmm, _, hx⟩
  · simp at hcs
    obtain ⟨rfl, rfl, rfl⟩ := hcs
    exact ⟨Nat.zero_le _, fun _ => none, fun _ => 0, fun _ => 0, fun _ _ => 0, fun i hi => absurd hi (by omega)⟩
  · simp at hcs
    obtain ⟨rfl, rfl, rfl⟩ := hcs
    simp at hmm
    subst hmm
    refine ⟨by omega, ?_⟩
    have each : ∀ i, i < n → ∃ q : Option Addr × Nat × Nat × (Nat → Int), W.cell? (a.add i) = some (.slice q.1 q.2.1 q.2.2.1) ∧ IntsAt W q.1 q.2.1 q.2.2.2 ∧ (q.1 = none → q.2.1 = 0) := by
      intro i hi
      obtain ⟨h1, h3⟩ := hx i (by omega)
      obtain ⟨aa, la, ca, ea⟩ : ∃ aa la ca, V i = .slice aa la ca := by
        rcases open_ints Tryf.underlying26 Tryf.underlying3 Tryf.cells3 h3 with ⟨hcs, _⟩ | ⟨x, l, cp, zs, hcs, _⟩
        · simp at hcs; exact ⟨_, _, _, hcs⟩
        · simp at hcs; exact ⟨_, _, _, hcs⟩
      rw [ea] at h3 h1
      obtain ⟨g1, g2, Z, g3⟩ := open_ints' h3
      exact ⟨(aa, la, ca, Z), h1, g3, g1⟩
    obtain ⟨q, hq⟩ := choose_lt each
    refine ⟨fun i => (q i).1, fun i => (q i).2.1, fun i => (q i).2.2.1, fun i => (q i).2.2.2, fun i hi => ?_⟩
    obtain ⟨b, off, spot⟩ := a
    have hspot : spot = none := by simpa [Addr.add] using World.cell?_spot (hq 0 (by omega)).1
    subst hspot
    obtain ⟨h1, h2, h3⟩ := hq i hi
    rw [add_plain] at h1
    exact ⟨b, off, rfl, h1, h2, h3⟩
end Go.Proofs.Qxb6608660aFmt

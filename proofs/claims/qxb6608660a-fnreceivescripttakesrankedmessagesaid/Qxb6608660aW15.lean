import Derived.Test.Qxb6608660aW14
import Derived.Deep.Strs
import Derived.Deep.SlicePairs
import Derived.ProofKit
namespace Go.Proofs.Qxb6608660a
open Go.RowKit Go.ChangeShapes Go.WideShapes Go.Deep
set_option linter.unusedVariables false

theorem Try.cells47 : Try.prog.cellsOf 47 = 3 := by kernel_rfl
theorem Try.cells50 : Try.prog.cellsOf 50 = 2 := by kernel_rfl
theorem Try.cells9 : Try.prog.cellsOf 9 = 1 := by kernel_rfl
theorem Try.cells3 : Try.prog.cellsOf 3 = 1 := by kernel_rfl
theorem Try.cells24 : Try.prog.cellsOf 24 = 1 := by kernel_rfl

theorem list3 {α : Type} {l : List α} (h : l.length = 3) : ∃ a b c, l = [a, b, c] := by
  match l, h with
  | [a, b, c], _ => exact ⟨a, b, c, rfl⟩

set_option maxRecDepth 100000 in
theorem open_msgs {H : Type} {enc : TypeId × Value → H} {W : World} {fuel : Nat} {a0 : Option Addr} {n c0 : Nat} {x : DataW H × List MemPlace}
    (hf : DataW.trod enc Try.prog W 0 (fun _ => true) true fuel 22 [.slice a0 n c0] = some x) :
    (a0 = none → n = 0) ∧ n ≤ maxLen ∧ ∃ F T Q, MsgsAt W a0 n F T Q := by
  rcases open_slice Try.underlying22 hf with ⟨hcs, _⟩ | ⟨a, len, cap, m, k, D, Pl, hcs, hb, hl, hm, hmm, _, hx⟩
  · simp at hcs
    obtain ⟨rfl, rfl, rfl⟩ := hcs
    exact ⟨fun _ => rfl, Nat.zero_le _, fun _ => ByteArray.empty, fun _ => ByteArray.empty, fun _ => 0, fun i hi => absurd hi (by omega)⟩
  · simp at hcs
    obtain ⟨rfl, rfl, rfl⟩ := hcs
    simp at hmm
    subst hmm
    refine ⟨fun h => (by cases h), by omega, ?_⟩
    have each : ∀ i, i < n → ∃ q : ByteArray × ByteArray × Int, W.cell? (a.add (i * 3)) = some (.string q.1) ∧ W.cell? (a.add (i * 3 + 1)) = some (.string q.2.1) ∧ W.cell? (a.add (i * 3 + 2)) = some (.int .i64 q.2.2) := by
      intro i hi
      obtain ⟨cs', h1, h2⟩ := hx i (by omega)
      rw [Try.cells47] at h1
      obtain ⟨_, hlen, hcell⟩ := World.cells?_some h1
      obtain ⟨y0, y1, y2, _, _, _, t0, t1, t2⟩ := trod_struct3 Try.underlying47 h2
      obtain ⟨v0, v1, v2, rfl⟩ := list3 hlen
      simp only [Try.cells9, Try.cells3] at t0 t1 t2
      obtain ⟨s0, e0, _, _⟩ := DataW.trod_string Try.underlying9 t0
      obtain ⟨s1, e1, _, _⟩ := DataW.trod_string Try.underlying9 t1
      obtain ⟨z, e2, _, _⟩ := DataW.trod_int Try.underlying3 t2
      simp at e0 e1 e2
      subst e0 e1 e2
      have g0 := hcell 0 (by omega)
      have g1 := hcell 1 (by omega)
      have g2 := hcell 2 (by omega)
      rw [add_add] at g0 g1 g2
      exact ⟨(s0, s1, z), by simpa using g0, by simpa using g1, by simpa using g2⟩
    obtain ⟨q, hq⟩ := choose_lt each
    refine ⟨fun i => (q i).1, fun i => (q i).2.1, fun i => (q i).2.2, fun i hi => ?_⟩
    obtain ⟨b, off, spot⟩ := a
    have hspot : spot = none := by simpa [Addr.add] using World.cell?_spot (hq 0 (by omega)).1
    subst hspot
    obtain ⟨h1, h2, h3⟩ := hq i hi
    rw [add_plain] at h1 h2 h3
    exact ⟨b, off, rfl, h1, h2, h3⟩

theorem open_ints' {H : Type} {enc : TypeId × Value → H} {W : World} {fuel : Nat} {a : Option Addr} {n c : Nat} {x : DataW H × List MemPlace}
    (hf : DataW.trod enc Try.prog W 0 (fun _ => true) true fuel 24 [.slice a n c] = some x) :
    (a = none → n = 0) ∧ n ≤ maxLen ∧ ∃ Z, IntsAt W a n Z := by
  rcases open_ints Try.underlying24 Try.underlying3 Try.cells3 hf with ⟨hcs, _⟩ | ⟨x, l, cp, zs, hcs, _, hl, hm, hz, _, hcell, hwz⟩
  · simp at hcs
    obtain ⟨rfl, rfl, rfl⟩ := hcs
    exact ⟨fun _ => rfl, Nat.zero_le _, fun _ => 0, fun i hi => absurd hi (by omega)⟩
  · simp at hcs
    obtain ⟨rfl, rfl, rfl⟩ := hcs
    simp at hz
    refine ⟨fun h => (by cases h), by omega, fun i => zs.getD i 0, fun i hi => ?_⟩
    obtain ⟨b, off, spot⟩ := x
    have hspot : spot = none := by simpa [Addr.add] using World.cell?_spot (hcell 0 (by omega))
    subst hspot
    have := hcell i (by omega)
    rw [add_plain] at this
    exact ⟨b, off, rfl, this⟩

set_option maxRecDepth 100000 in
theorem open_stamps {H : Type} {enc : TypeId × Value → H} {W : World} {fuel : Nat} {a0 : Option Addr} {n c0 : Nat} {x : DataW H × List MemPlace}
    (hf : DataW.trod enc Try.prog W 0 (fun _ => true) true fuel 23 [.slice a0 n c0] = some x) :
    (a0 = none → n = 0) ∧ n ≤ maxLen ∧ ∃ A L C Z N, StampsAt W a0 n A L C Z N := by
  rcases open_slice_pairs Try.underlying23 Try.underlying50 Try.cells50 rfl rfl Try.cells24 Try.cells3 hf with ⟨hcs, _⟩ | ⟨a, len, cap, m, k, V0, V1, D0, D1, P0, P1, hcs, hb, hl, hm, hmm, _, hx⟩
  · simp at hcs
    obtain ⟨rfl, rfl, rfl⟩ := hcs
    exact ⟨fun _ => rfl, Nat.zero_le _, fun _ => none, fun _ => 0, fun _ => 0, fun _ _ => 0, fun _ => 0, fun i hi => absurd hi (by omega)⟩
  · simp at hcs
    obtain ⟨rfl, rfl, rfl⟩ := hcs
    simp at hmm
    subst hmm
    refine ⟨fun h => (by cases h), by omega, ?_⟩
    have each : ∀ i, i < n → ∃ q : Option Addr × Nat × Nat × (Nat → Int) × Int, W.cell? (a.add (i * 2)) = some (.slice q.1 q.2.1 q.2.2.1) ∧ W.cell? (a.add (i * 2 + 1)) = some (.int .i64 q.2.2.2.2) ∧ IntsAt W q.1 q.2.1 q.2.2.2.1 ∧ (q.1 = none → q.2.1 = 0) := by
      intro i hi
      obtain ⟨h1, h2, h3, h4⟩ := hx i (by omega)
      obtain ⟨z, e2, _, _⟩ := DataW.trod_int Try.underlying3 h4
      simp at e2
      obtain ⟨aa, la, ca, ea⟩ : ∃ aa la ca, V0 i = .slice aa la ca := by
        rcases open_ints Try.underlying24 Try.underlying3 Try.cells3 h3 with ⟨hcs, _⟩ | ⟨x, l, cp, zs, hcs, _⟩
        · simp at hcs; exact ⟨_, _, _, hcs⟩
        · simp at hcs; exact ⟨_, _, _, hcs⟩
      rw [ea] at h3 h1
      rw [e2] at h2
      obtain ⟨g1, g2, Z, g3⟩ := open_ints' h3
      exact ⟨(aa, la, ca, Z, z), h1, h2, g3, g1⟩
    obtain ⟨q, hq⟩ := choose_lt each
    refine ⟨fun i => (q i).1, fun i => (q i).2.1, fun i => (q i).2.2.1, fun i => (q i).2.2.2.1, fun i => (q i).2.2.2.2, fun i hi => ?_⟩
    obtain ⟨b, off, spot⟩ := a
    have hspot : spot = none := by simpa [Addr.add] using World.cell?_spot (hq 0 (by omega)).1
    subst hspot
    obtain ⟨h1, h2, h3, h4⟩ := hq i hi
    rw [add_plain] at h1 h2
    exact ⟨b, off, rfl, h1, h2, h3, h4⟩

/-- THE LAW, WHATEVER THE INPUT. -/
theorem law_any (a0 : Option Addr) (n c0 : Nat) (F T : Nat → ByteArray) (Q : Nat → Int) (a1 : Option Addr) (n1 c1 : Nat) (A : Nat → Option Addr) (L C : Nat → Nat) (Z : Nat → Nat → Int) (N : Nat → Int)
    (a2 : Option Addr) (m c2 : Nat) (P : Nat → Int) (W : World) (hn : n ≤ maxLen) (hn1 : n1 ≤ maxLen) (hm : m ≤ maxLen) (h0 : MsgsAt W a0 n F T Q) (h1 : StampsAt W a1 n1 A L C Z N) (h2 : IntsAt W a2 m P)
    (z0 : a0 = none → n = 0) (z1 : a1 = none → n1 = 0) :
    Calls Try.prog 3 #[.slice a0 n c0, .slice a1 n1 c1, .slice a2 m c2] W (LawPost W) := by
  by_cases g : n ≤ 4096 ∧ n1 ≤ 4096 ∧ m ≤ 4096 ∧ (n1 = 0 ∨ n1 = n)
  · obtain ⟨g0, g1, g2, g3⟩ := g
    by_cases e : n1 = 0
    · subst e
      exact law_plain a0 n c0 F T Q a1 c1 A L C Z N a2 m c2 P W g0 g2 h0 h1 h2 z0
    · obtain rfl : n1 = n := by rcases g3 with h | h; exact absurd h e; exact h
      exact law_traced a0 n1 c0 F T Q a1 c1 A L C Z N a2 m c2 P W g0 (by omega) g2 h0 h1 h2 z0 z1
  · exact law_quit a0 n c0 F T Q a1 n1 c1 A L C Z N a2 m c2 W hn hn1 hm h0 h1 g

end Go.Proofs.Qxb6608660a

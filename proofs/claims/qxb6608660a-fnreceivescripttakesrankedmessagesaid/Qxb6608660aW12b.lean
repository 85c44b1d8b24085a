import Derived.Test.Qxb6608660aW12
namespace Go.Proofs.Qxb6608660a
open Go.RowKit
set_option linter.unusedVariables false

/-- THE MAIN LOOP's RELATION. -/
def LoopInv (c : Ctx) (W w : World) (k : Nat) : Prop :=
  ∃ p arr tk gp wq, Mid c W w k p arr (c.n - k) tk gp wq ∧ RankInv c.n tk p (c.n - k) arr ∧ p ≤ k

theorem rowIs_one (w : World) (z : Value) (n : Nat) (t : TypeId) : (w.alloc (.cells (madeCells #[z] n) t)).rowIs w.heap.size t n (fun _ => z) := World.rowIs_made w z n t

/-- The world in which the main loop begins. -/
def startWorld (w : World) (iv sv : Value) (n m : Nat) : World :=
  (((w.alloc (.cells (nodeCells iv sv) 74)).alloc (.cells (madeCells #[.bool false] n) 4)).alloc (.cells (madeCells #[.pointer none] m) 37)).alloc (.cells (madeCells #[.int .i64 0] m) 3)

theorem startWorld_rows (w : World) (iv sv : Value) (n m : Nat) :
    (startWorld w iv sv n m).rowIs w.heap.size 74 8 (nodeF iv sv) ∧ (startWorld w iv sv n m).rowIs (w.heap.size + 1) 4 n (fun _ => .bool false) ∧
    (startWorld w iv sv n m).rowIs (w.heap.size + 2) 37 m (fun _ => .pointer none) ∧ (startWorld w iv sv n m).rowIs (w.heap.size + 3) 3 m (fun _ => .int .i64 0) ∧ Below w.heap.size w (startWorld w iv sv n m) := by
  have h1 : (w.alloc (.cells (nodeCells iv sv) 74)).rowIs w.heap.size 74 8 (nodeF iv sv) :=
    World.rowIs_alloc w (nodeCells iv sv) 74 _ (fun i hi => by
      unfold nodeF
      rw [Array.getElem?_eq_getElem hi, Array.getD_eq_getD_getElem?, Array.getElem?_eq_getElem hi]; rfl)
  have h2 := rowIs_one (w.alloc (.cells (nodeCells iv sv) 74)) (.bool false) n 4
  have h3 := rowIs_one ((w.alloc (.cells (nodeCells iv sv) 74)).alloc (.cells (madeCells #[.bool false] n) 4)) (.pointer none) m 37
  have h4 := rowIs_one (((w.alloc (.cells (nodeCells iv sv) 74)).alloc (.cells (madeCells #[.bool false] n) 4)).alloc (.cells (madeCells #[.pointer none] m) 37)) (.int .i64 0) m 3
  simp only [World.size_alloc] at h2 h3 h4
  refine ⟨((h1.alloc _).alloc _).alloc _, (h2.alloc _).alloc _, h3.alloc _, h4, ?_⟩
  exact ((((Below.refl _ _).alloc (Nat.le_refl _) _).alloc (by simp) _).alloc (by simp; omega) _).alloc (by simp; omega) _

def ctxP (n m : Nat) (F T : Nat → ByteArray) (Q : Nat → Int) (H Bm : Nat) : Ctx :=
  ⟨n, m, false, F, T, Q, fun _ => none, fun _ => 0, fun _ => 0, fun _ => 0, fun _ _ => 0, H, Bm, H + Bm + 1, H + 1, H + 1 + 1, H + 1 + 1 + 1⟩
def ctxT (n m : Nat) (F T : Nat → ByteArray) (Q : Nat → Int) (A : Nat → Option Addr) (L C : Nat → Nat) (N : Nat → Int) (Z : Nat → Nat → Int) (H Bm Bs : Nat) : Ctx :=
  ⟨n, m, true, F, T, Q, A, L, C, N, Z, H, Bm, Bs, H + 1, H + 1 + 1, H + 1 + 1 + 1⟩

/-- THE START, untraced. -/
theorem loop_start_plain {W w0 w1 w2 : World} {n m : Nat} {F T : Nat → ByteArray} {Q : Nat → Int} {b0 b1 : Option Addr} {s1 : Nat} (hn : n ≤ 4096) (hm : m ≤ 4096)
    (hb0 : Below W.heap.size W w0) (hz : W.heap.size ≤ w0.heap.size)
    (hb1 : Below w0.heap.size w0 w1) (hr1 : 0 < n → ∃ B, b0 = some ⟨B, 0, none⟩ ∧ w0.heap.size ≤ B ∧ w1.rowIs B 45 (n * 3) (mcell F T Q id)) (hb2 : Below w1.heap.size w1 w2) :
    ∃ Bm, (ctxP n m F T Q w2.heap.size Bm).Ok W.heap.size ∧
      LoopInv (ctxP n m F T Q w2.heap.size Bm) W (startWorld w2 (.slice b0 n n) (.slice b1 0 s1) n m) 0 := by
  obtain ⟨Bm, hBm⟩ : ∃ Bm, 0 < n → b0 = some ⟨Bm, 0, none⟩ ∧ w0.heap.size ≤ Bm ∧ w1.rowIs Bm 45 (n * 3) (mcell F T Q id) := by
    by_cases h : 0 < n
    · obtain ⟨B, h1⟩ := hr1 h; exact ⟨B, fun _ => h1⟩
    · exact ⟨0, fun h' => absurd h' h⟩
  have l1 := hb1.size
  have l2 := hb2.size
  obtain ⟨r1, r2, r3, r4, hB⟩ := startWorld_rows w2 (.slice b0 n n) (.slice b1 0 s1) n m
  have hbW : Below W.heap.size W (startWorld w2 (.slice b0 n n) (.slice b1 0 s1) n m) := ((hb0.trans (hb1.mono hz)).trans (hb2.mono (by omega))).trans (hB.mono (by omega))
  refine ⟨Bm, ?_, ?_⟩
  · refine ⟨by show n ≤ _; omega, by show m ≤ _; omega, fun h => ?_, fun h => (by cases h), by show w2.heap.size ≠ w2.heap.size + Bm + 1; omega, fun _ => by show Bm ≠ w2.heap.size + Bm + 1; omega, by show W.heap.size ≤ w2.heap.size; omega, Nat.lt_succ_self _, Nat.lt_succ_self _, Nat.lt_succ_self _⟩
    obtain ⟨_, g2, g3⟩ := hBm h
    have := g3.lt
    show W.heap.size ≤ Bm ∧ Bm < w2.heap.size
    omega
  · refine ⟨0, id, fun _ => false, fun _ => (0, 0), fun _ => 0, ⟨?_, r2, ?_, ?_, fun j hj => absurd hj (by omega), fun j hj => absurd hj (by omega), hbW, fun h => (by cases h)⟩, RankInv.start n, Nat.le_refl _⟩
    · refine ⟨_, _, r1, ⟨b0, n, rfl, fun h => ?_⟩, fun h => ?_, fun h => (by cases h), fun _ => ⟨b1, s1, rfl⟩⟩
      · exact ⟨by rw [(hBm h).1]; rfl, by show 0 + n = n; omega, Nat.le_refl _⟩
      · exact ((hBm h).2.2.of_block (hb2.block _ (hBm h).2.2.lt)).of_block (hB.block _ (by have := (hBm h).2.2.lt; show Bm < w2.heap.size; omega))
    · exact r3.congr (fun j _ => by simp)
    · exact r4.congr (fun j _ => by simp)

/-- THE START, traced. -/
theorem loop_start_traced {W w0 w1 w2 : World} {n m : Nat} {F T : Nat → ByteArray} {Q : Nat → Int} {L : Nat → Nat} {Z : Nat → Nat → Int} {N : Nat → Int} {b0 b1 : Option Addr} (hn : n ≤ 4096) (hm : m ≤ 4096) (hn0 : 0 < n)
    (hb0 : Below W.heap.size W w0) (hz : W.heap.size ≤ w0.heap.size)
    (hb1 : Below w0.heap.size w0 w1) (hr1 : 0 < n → ∃ B, b0 = some ⟨B, 0, none⟩ ∧ w0.heap.size ≤ B ∧ w1.rowIs B 45 (n * 3) (mcell F T Q id)) (hb2 : Below w1.heap.size w1 w2)
    (hr2 : 0 < n → ∃ B A C, b1 = some ⟨B, 0, none⟩ ∧ w1.heap.size ≤ B ∧ w2.rowIs B 40 (n * 2) (scell A L C N id) ∧ ∀ j, j < n → IntsFrom (B + 1) w2 (A j) (L j) (Z j)) :
    ∃ A C Bm Bs, (ctxT n m F T Q A L C N Z w2.heap.size Bm Bs).Ok W.heap.size ∧
      LoopInv (ctxT n m F T Q A L C N Z w2.heap.size Bm Bs) W (startWorld w2 (.slice b0 n n) (.slice b1 n n) n m) 0 := by
  obtain ⟨Bm, g1, g2, g3⟩ := hr1 hn0
  obtain ⟨Bs, A, C, k1, k2, k3, k4⟩ := hr2 hn0
  have l1 := hb1.size
  have l2 := hb2.size
  have m1 := g3.lt
  have m2 := k3.lt
  obtain ⟨r1, r2, r3, r4, hB⟩ := startWorld_rows w2 (.slice b0 n n) (.slice b1 n n) n m
  have hbW : Below W.heap.size W (startWorld w2 (.slice b0 n n) (.slice b1 n n) n m) := ((hb0.trans (hb1.mono hz)).trans (hb2.mono (by omega))).trans (hB.mono (by omega))
  refine ⟨A, C, Bm, Bs, ?_, ?_⟩
  · exact ⟨by show n ≤ _; omega, by show m ≤ _; omega, fun h => by show W.heap.size ≤ Bm ∧ Bm < w2.heap.size; omega, fun _ _ => by show Bm < Bs ∧ Bs < w2.heap.size; omega, by show w2.heap.size ≠ Bs; omega, fun _ => by show Bm ≠ Bs; omega, by show W.heap.size ≤ w2.heap.size; omega, Nat.lt_succ_self _, Nat.lt_succ_self _, Nat.lt_succ_self _⟩
  · refine ⟨0, id, fun _ => false, fun _ => (0, 0), fun _ => 0, ⟨?_, r2, ?_, ?_, fun j hj => absurd hj (by omega), fun j hj => absurd hj (by omega), hbW, fun _ j hj i hi => ?_⟩, RankInv.start n, Nat.le_refl _⟩
    · refine ⟨_, _, r1, ⟨b0, n, rfl, fun h => ?_⟩, fun h => ?_, fun _ => ⟨⟨b1, n, rfl, fun h => ?_⟩, fun h => ?_⟩, fun h => (by cases h)⟩
      · exact ⟨by rw [g1]; rfl, by show 0 + n = n; omega, Nat.le_refl _⟩
      · exact (g3.of_block (hb2.block _ m1)).of_block (hB.block _ (by show Bm < w2.heap.size; omega))
      · exact ⟨by rw [k1]; rfl, by show 0 + n = n; omega, Nat.le_refl _⟩
      · exact k3.of_block (hB.block _ m2)
    · exact r3.congr (fun j _ => by simp)
    · exact r4.congr (fun j _ => by simp)
    · obtain ⟨x, o, e, hx, hc⟩ := k4 j hj i hi
      have hl := World.block_lt_of_cell? w2 _ hc
      exact ⟨x, o, e, by show Bs < x; omega, hl, (hB.cell (by exact hl)).trans hc⟩

/-- A step of the main loop, in plain terms. -/
theorem LoopInv.next {c : Ctx} {W w : World} {k : Nat} (ok : c.Ok W.heap.size) {p : Nat} {arr : Nat → Nat} {tk : Nat → Bool} {gp : Nat → Nat × Nat} {wq : Nat → Nat} {i : Nat} (hk : k < c.m) (hi : i < c.n - k)
    (hR : RankInv c.n tk p (c.n - k) arr) (hp : p ≤ k) {mb mo : Nat}
    (hm : Mid c W w k (if i = 0 then p + 1 else p) (shift arr p i (c.n - k)) (c.n - k - 1) tk gp wq) (hg : Got c w (if i = 0 then p + 1 else p) (shift arr p i (c.n - k)) (mb, mo) (arr (p + i))) :
    LoopInv c W (((w.setCell ⟨c.Bt, arr (p + i), none⟩ (.bool true)).setCell ⟨c.Bg, k, none⟩ (.pointer (some ⟨mb, mo, none⟩))).setCell ⟨c.Bw, k, none⟩ (.int .i64 (arr (p + i)))) (k + 1) := by
  have h1 := hm.round ok (hR.lt i hi) hk hg
  have h2 := hR.step hi
  rw [show c.n - k - 1 = c.n - (k + 1) by omega] at h1 h2
  exact ⟨_, _, _, _, _, h1, h2, by split <;> omega⟩

end Go.Proofs.Qxb6608660a

import Derived.Test.Qxb6608660aW11
namespace Go.Proofs.Qxb6608660a
open Go.RowKit
set_option linter.unusedVariables false

/-- All that stands through the law's main loop. -/
structure Ctx where
  n : Nat
  m : Nat
  tr : Bool
  F : Nat → ByteArray
  T : Nat → ByteArray
  Q : Nat → Int
  A : Nat → Option Addr
  L : Nat → Nat
  C : Nat → Nat
  N : Nat → Int
  Z : Nat → Nat → Int
  Bn : Nat
  Bm : Nat
  Bs : Nat
  Bt : Nat
  Bg : Nat
  Bw : Nat

structure Ctx.Ok (c : Ctx) (B0 : Nat) : Prop where
  n0 : c.n ≤ 1048576
  m0 : c.m ≤ 1048576
  bm : 0 < c.n → B0 ≤ c.Bm ∧ c.Bm < c.Bn
  bs : c.tr = true → 0 < c.n → c.Bm < c.Bs ∧ c.Bs < c.Bn
  ns : c.Bn ≠ c.Bs
  ms : 0 < c.n → c.Bm ≠ c.Bs
  bn : B0 ≤ c.Bn
  bt : c.Bn < c.Bt
  bg : c.Bt < c.Bg
  bw : c.Bg < c.Bw

/-- The message q lies at (b, o). -/
structure MsgIn (c : Ctx) (w : World) (b o q : Nat) : Prop where
  c0 : w.cell? ⟨b, o, none⟩ = some (.string (c.F q))
  c1 : w.cell? ⟨b, o + 1, none⟩ = some (.string (c.T q))
  c2 : w.cell? ⟨b, o + 2, none⟩ = some (.iface 3 (.int .i64 (c.Q q)))

theorem MsgIn.of_block {c : Ctx} {w w' : World} {b o q : Nat} (h : MsgIn c w b o q) (hb : w'.heap[b]? = w.heap[b]?) : MsgIn c w' b o q :=
  ⟨(World.cell?_of_block (w := w) hb).trans h.c0, (World.cell?_of_block (w := w) hb).trans h.c1, (World.cell?_of_block (w := w) hb).trans h.c2⟩
theorem MsgIn.lt {c : Ctx} {w : World} {b o q : Nat} (h : MsgIn c w b o q) : b < w.heap.size := World.block_lt_of_cell? w _ h.c0

/-- The numbers lie in blocks strictly between lo and hi. -/
def ClkIn (w : World) (lo hi : Nat) (a : Option Addr) (n : Nat) (Z : Nat → Int) : Prop :=
  ∀ i, i < n → ∃ x o, a = some ⟨x, o, none⟩ ∧ lo < x ∧ x < hi ∧ w.cell? ⟨x, o + i, none⟩ = some (.int .i64 (Z i))
theorem ClkIn.at {w : World} {lo hi : Nat} {a : Option Addr} {n : Nat} {Z : Nat → Int} (h : ClkIn w lo hi a n Z) : IntsAt w a n Z := fun i hi => by
  obtain ⟨x, o, e, _, _, hc⟩ := h i hi
  exact ⟨x, o, e, hc⟩
theorem ClkIn.of_blocks {w w' : World} {lo hi : Nat} {a : Option Addr} {n : Nat} {Z : Nat → Int} (h : ClkIn w lo hi a n Z) (hb : ∀ b, lo < b → b < hi → b < w.heap.size → w'.heap[b]? = w.heap[b]?) : ClkIn w' lo hi a n Z := fun i hi => by
  obtain ⟨x, o, e, h1, h2, hc⟩ := h i hi
  exact ⟨x, o, e, h1, h2, (World.cell?_of_block (w := w) (hb x h1 h2 (World.block_lt_of_cell? w _ hc))).trans hc⟩

/-- What is known of a pointer that was handed out for message q. -/
def Got (c : Ctx) (w : World) (p : Nat) (arr : Nat → Nat) (g : Nat × Nat) (q : Nat) : Prop :=
  (c.Bw < g.1 ∧ MsgIn c w g.1 g.2 q) ∨ (∃ s, s < p ∧ s < c.n ∧ g = (c.Bm, s * 3) ∧ arr s = q)

structure Mid (c : Ctx) (W w : World) (k p : Nat) (arr : Nat → Nat) (len : Nat) (tk : Nat → Bool) (gp : Nat → Nat × Nat) (wq : Nat → Nat) : Prop where
  node : NodeSt w c.Bn c.Bm c.Bs c.n c.tr c.F c.T c.Q c.A c.L c.C c.N p len arr
  tkr : w.rowIs c.Bt 4 c.n (fun i => .bool (tk i))
  gtr : w.rowIs c.Bg 37 c.m (fun j => if j < k then .pointer (some ⟨(gp j).1, (gp j).2, none⟩) else .pointer none)
  wnr : w.rowIs c.Bw 3 c.m (fun j => if j < k then .int .i64 (wq j) else .int .i64 0)
  wlt : ∀ j, j < k → wq j < c.n
  got : ∀ j, j < k → Got c w p arr (gp j) (wq j)
  bel : Below W.heap.size W w
  clk : c.tr = true → ∀ j, j < c.n → ClkIn w c.Bs c.Bn (c.A j) (c.L j) (c.Z j)

theorem Got.of_block {c : Ctx} {w w' : World} {p : Nat} {arr : Nat → Nat} {g : Nat × Nat} {q : Nat} (h : Got c w p arr g q) (hb : ∀ b, c.Bw < b → b < w.heap.size → w'.heap[b]? = w.heap[b]?) : Got c w' p arr g q := by
  rcases h with ⟨h1, h2⟩ | h
  · exact .inl ⟨h1, h2.of_block (hb _ h1 h2.lt)⟩
  · exact .inr h

theorem NodeSt.lts {w : World} {Bn Bm Bs n : Nat} {tr : Bool} {F T : Nat → ByteArray} {Q : Nat → Int} {A : Nat → Option Addr} {L C : Nat → Nat} {N : Nat → Int} {p len : Nat} {arr : Nat → Nat}
    (h : NodeSt w Bn Bm Bs n tr F T Q A L C N p len arr) : Bn < w.heap.size ∧ (0 < n → Bm < w.heap.size) ∧ (tr = true → 0 < n → Bs < w.heap.size) := by
  obtain ⟨iv, sv, hN, hI, hM, hT, hU⟩ := h
  exact ⟨hN.lt, fun h => (hM h).lt, fun h h2 => ((hT h).2 h2).lt⟩

/-- Nothing that was there has turned. -/
theorem Mid.below {c : Ctx} {W w w' : World} {k p : Nat} {arr : Nat → Nat} {len : Nat} {tk : Nat → Bool} {gp : Nat → Nat × Nat} {wq : Nat → Nat} (h : Mid c W w k p arr len tk gp wq) (hb : Below w.heap.size w w') : Mid c W w' k p arr len tk gp wq := by
  have hl := h.node.lts
  refine ⟨h.node.of_blocks (fun b hb' => hb.block b ?_), h.tkr.of_block (hb.block _ h.tkr.lt), h.gtr.of_block (hb.block _ h.gtr.lt), h.wnr.of_block (hb.block _ h.wnr.lt), h.wlt, fun j hj => (h.got j hj).of_block (fun b _ hlt => hb.block b hlt), h.bel.trans (hb.mono h.bel.size), fun ht j hj => (h.clk ht j hj).of_blocks (fun b _ _ hlt => hb.block b hlt)⟩
  rcases hb' with rfl | ⟨h0, rfl | ⟨ht, rfl⟩⟩
  · exact hl.1
  · exact hl.2.1 h0
  · exact hl.2.2 ht h0

/-- BEHIND THE receive: the node has gone on, the rest stands. -/
theorem Mid.receive {c : Ctx} {W w w' : World} {k p : Nat} {arr : Nat → Nat} {len : Nat} {tk : Nat → Bool} {gp : Nat → Nat × Nat} {wq : Nat → Nat} (ok : c.Ok W.heap.size) (h : Mid c W w k p arr len tk gp wq) {i : Nat} (hil : i < len) (hpl : p + len ≤ c.n)
    {mb mo : Nat}
    (c0 : w'.cell? ⟨mb, mo, none⟩ = some (.string (c.F (arr (p + i))))) (c1 : w'.cell? ⟨mb, mo + 1, none⟩ = some (.string (c.T (arr (p + i))))) (c2 : w'.cell? ⟨mb, mo + 2, none⟩ = some (.iface 3 (.int .i64 (c.Q (arr (p + i))))))
    (hi0 : i = 0 → mb = c.Bm ∧ mo = p * 3) (hip : 0 < i → w.heap.size ≤ mb)
    (hst : NodeSt w' c.Bn c.Bm c.Bs c.n c.tr c.F c.T c.Q c.A c.L c.C c.N (if i = 0 then p + 1 else p) (len - 1) (shift arr p i len))
    (hO : Only (fun k => k = c.Bn ∨ k = c.Bm ∨ (c.tr = true ∧ k = c.Bs)) w w') :
    Mid c W w' k (if i = 0 then p + 1 else p) (shift arr p i len) (len - 1) tk gp wq ∧ Got c w' (if i = 0 then p + 1 else p) (shift arr p i len) (mb, mo) (arr (p + i)) := by
  have hn : 0 < c.n := by omega
  have b1 := ok.bm hn
  have b2 := fun ht => ok.bs ht hn
  have b3 := ok.bt
  have b4 := ok.bg
  have b5 := ok.bw
  have hlw := h.wnr.lt
  have hge : ∀ b, b < w.heap.size → c.Bn < b → w'.heap[b]? = w.heap[b]? := fun b hb hlt => hO.block b hb (fun e => by
    rcases e with e | e | ⟨ht, e⟩
    · omega
    · omega
    · have := b2 ht; omega)
  refine ⟨⟨hst, h.tkr.of_block (hge _ h.tkr.lt b3), h.gtr.of_block (hge _ h.gtr.lt (by omega)), h.wnr.of_block (hge _ h.wnr.lt (by omega)), h.wlt, fun j hj => ?_, ?_, fun ht j hj => ?_⟩, ?_⟩
  · rcases h.got j hj with ⟨h1, h2⟩ | ⟨s, h1, h2, h3, h4⟩
    · exact .inl ⟨h1, h2.of_block (hge _ h2.lt (by omega))⟩
    · have hs : s < (if i = 0 then p + 1 else p) := by split <;> omega
      exact .inr ⟨s, hs, h2, h3, by rw [shift_pre _ _ _ _ _ hs]; exact h4⟩
  · refine h.bel.trans (hO.below h.bel.size (fun b hb => ?_))
    rcases hb with rfl | rfl | ⟨ht, rfl⟩
    · exact ok.bn
    · exact b1.1
    · have := b2 ht; omega
  · refine (h.clk ht j hj).of_blocks (fun b h1 h2 h3 => hO.block b h3 (fun e => ?_))
    have := b2 ht
    rcases e with e | e | ⟨_, e⟩ <;> omega
  · rcases Nat.eq_zero_or_pos i with e | e
    · obtain ⟨rfl, rfl⟩ := hi0 e
      refine .inr ⟨p, by rw [if_pos e]; omega, by omega, rfl, ?_⟩
      rw [shift_pre _ _ _ _ _ (by rw [if_pos e]; omega), e]; rfl
    · exact .inl ⟨by have := hip e; show c.Bw < mb; omega, ⟨c0, c1, c2⟩⟩

/-- THE ROUND's END: taken[q] = true, got[k] = m, want[k] = q. -/
theorem Mid.round {c : Ctx} {W w : World} {k p : Nat} {arr : Nat → Nat} {len : Nat} {tk : Nat → Bool} {gp : Nat → Nat × Nat} {wq : Nat → Nat} (ok : c.Ok W.heap.size) (h : Mid c W w k p arr len tk gp wq) {q mb mo : Nat} (hq : q < c.n) (hk : k < c.m) (hg : Got c w p arr (mb, mo) q) :
    Mid c W (((w.setCell ⟨c.Bt, q, none⟩ (.bool true)).setCell ⟨c.Bg, k, none⟩ (.pointer (some ⟨mb, mo, none⟩))).setCell ⟨c.Bw, k, none⟩ (.int .i64 q)) (k + 1) p arr len (mark tk q)
      (fun j => if j = k then (mb, mo) else gp j) (fun j => if j = k then q else wq j) := by
  have b1 := ok.bm
  have b2 := ok.bs
  have b3 := ok.bt
  have b4 := ok.bg
  have b5 := ok.bw
  have b6 := ok.bn
  have hlw := h.wnr.lt
  have e3 : ∀ b, b ≠ c.Bt → b ≠ c.Bg → b ≠ c.Bw → (((w.setCell ⟨c.Bt, q, none⟩ (.bool true)).setCell ⟨c.Bg, k, none⟩ (.pointer (some ⟨mb, mo, none⟩))).setCell ⟨c.Bw, k, none⟩ (.int .i64 q)).heap[b]? = w.heap[b]? := fun b x y z => by
    rw [Below.heap_setCell _ _ _ _ z, Below.heap_setCell _ _ _ _ y, Below.heap_setCell _ _ _ _ x]
  refine ⟨?_, ?_, ?_, ?_, ?_, ?_, ?_, ?_⟩
  · refine h.node.of_blocks (fun b hb => ?_)
    have : b ≤ c.Bn := by
      rcases hb with rfl | ⟨h0, rfl | ⟨ht, rfl⟩⟩
      · exact Nat.le_refl _
      · have := b1 h0; omega
      · have := b2 ht h0; omega
    exact e3 b (by omega) (by omega) (by omega)
  · exact (((h.tkr.set q (.bool true)).congr (fun j _ => by by_cases e : j = q <;> simp [mark, e])).setOther (a := ⟨c.Bg, k, none⟩) (by show c.Bt ≠ c.Bg; omega) _).setOther (a := ⟨c.Bw, k, none⟩) (by show c.Bt ≠ c.Bw; omega) _
  · refine (((h.gtr.setOther (a := ⟨c.Bt, q, none⟩) (by show c.Bg ≠ c.Bt; omega) _).set k (.pointer (some ⟨mb, mo, none⟩))).setOther (a := ⟨c.Bw, k, none⟩) (by show c.Bg ≠ c.Bw; omega) _).congr (fun j _ => ?_)
    by_cases e : j = k
    · simp [e]
    · by_cases e2 : j < k
      · simp [e, e2, show j < k + 1 by omega]
      · simp [e, e2, show ¬ j < k + 1 by omega]
  · refine (((h.wnr.setOther (a := ⟨c.Bt, q, none⟩) (by show c.Bw ≠ c.Bt; omega) _).setOther (a := ⟨c.Bg, k, none⟩) (by show c.Bw ≠ c.Bg; omega) _).set k (.int .i64 q)).congr (fun j _ => ?_)
    by_cases e : j = k
    · simp [e]
    · by_cases e2 : j < k
      · simp [e, e2, show j < k + 1 by omega]
      · simp [e, e2, show ¬ j < k + 1 by omega]
  · intro j hj
    by_cases e : j = k
    · simp [e, hq]
    · simp only [if_neg e]; exact h.wlt j (by omega)
  · intro j hj
    by_cases e : j = k
    · simp only [if_pos e]
      exact hg.of_block (fun b h1 _ => e3 b (by omega) (by omega) (by omega))
    · simp only [if_neg e]
      exact (h.got j (by omega)).of_block (fun b h1 _ => e3 b (by omega) (by omega) (by omega))
  · exact ((h.bel.setCell (p := ⟨c.Bt, q, none⟩) (by show W.heap.size ≤ c.Bt; omega) _).setCell (p := ⟨c.Bg, k, none⟩) (by show W.heap.size ≤ c.Bg; omega) _).setCell (p := ⟨c.Bw, k, none⟩) (by show W.heap.size ≤ c.Bw; omega) _
  · exact fun ht j hj => (h.clk ht j hj).of_blocks (fun b _ h2 _ => e3 b (by omega) (by omega) (by omega))

/-- A pointer that was handed out still reads its message. -/
theorem Mid.still {c : Ctx} {W w : World} {k p : Nat} {arr : Nat → Nat} {len : Nat} {tk : Nat → Bool} {gp : Nat → Nat × Nat} {wq : Nat → Nat} (h : Mid c W w k p arr len tk gp wq) {j : Nat} (hj : j < k) : MsgIn c w (gp j).1 (gp j).2 (wq j) := by
  rcases h.got j hj with ⟨_, h2⟩ | ⟨s, h1, h2, h3, h4⟩
  · exact h2
  · obtain ⟨iv, sv, hN, hI, hM, hT, hU⟩ := h.node
    have hM := hM (by omega)
    rw [h3, ← h4]
    exact ⟨(hM.cell (i := s * 3) (by omega)).trans (by rw [mcell0]), (hM.cell (i := s * 3 + 1) (by omega)).trans (by rw [mcell1]), (hM.cell (i := s * 3 + 2) (by omega)).trans (by rw [mcell2])⟩

end Go.Proofs.Qxb6608660a

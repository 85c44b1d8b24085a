import Derived.Test.Qxb6608660aW9
namespace Go.Proofs.Qxb6608660a
open Go.RowKit
set_option linter.unusedSimpArgs false
set_option linter.unusedVariables false

theorem receive_any (w : World) (Bn Bm Bs n : Nat) (tr : Bool) (F T : Nat → ByteArray) (Q : Nat → Int) (A : Nat → Option Addr) (L C : Nat → Nat) (N : Nat → Int) (p len : Nat) (arr : Nat → Nat) (i : Nat)
    (hn : n ≤ 1048576) (hnm : Bn ≠ Bm) (hns : Bn ≠ Bs) (hms : Bm ≠ Bs) (hil : i < len) (h : NodeSt w Bn Bm Bs n tr F T Q A L C N p len arr) :
    Calls Try.prog 27 #[.pointer (some ⟨Bn, 0, none⟩), .int .i64 i] w (RecPost w Bn Bm Bs n tr F T Q A L C N p len arr i) := by
  cases tr
  · by_cases e : i = 0
    · subst e
      exact receive_zero_plain w Bn Bm Bs n F T Q A L C N p len arr hn hnm (by omega) h
    · exact receive_pos_plain w Bn Bm Bs n F T Q A L C N p len arr i hn hnm (by omega) hil h
  · by_cases e : i = 0
    · subst e
      exact receive_zero_traced w Bn Bm Bs n F T Q A L C N p len arr hn hnm (by omega) hns hms h
    · exact receive_pos_traced w Bn Bm Bs n F T Q A L C N p len arr i hn hnm (by omega) hil hns hms h

/-- A block of its own, its two cells set: what was there is as it was. -/
theorem NodeSt.of_blocks {w w' : World} {Bn Bm Bs n : Nat} {tr : Bool} {F T : Nat → ByteArray} {Q : Nat → Int} {A : Nat → Option Addr} {L C : Nat → Nat} {N : Nat → Int} {p len : Nat} {arr : Nat → Nat}
    (h : NodeSt w Bn Bm Bs n tr F T Q A L C N p len arr) (hb : ∀ b, b = Bn ∨ (0 < n ∧ (b = Bm ∨ (tr = true ∧ b = Bs))) → w'.heap[b]? = w.heap[b]?) : NodeSt w' Bn Bm Bs n tr F T Q A L C N p len arr := by
  obtain ⟨iv, sv, hN, hI, hM, hT, hU⟩ := h
  exact ⟨iv, sv, hN.of_block (hb _ (.inl rfl)), hI, fun h => (hM h).of_block (hb _ (.inr ⟨h, .inl rfl⟩)), fun h => ⟨(hT h).1, fun h2 => ((hT h).2 h2).of_block (hb _ (.inr ⟨h2, .inr ⟨h, rfl⟩⟩))⟩, hU⟩

set_option maxRecDepth 100000 in
set_option maxHeartbeats 1000000 in
theorem zzReceive_any (w : World) (Bn Bm Bs n : Nat) (tr : Bool) (F T : Nat → ByteArray) (Q : Nat → Int) (A : Nat → Option Addr) (L C : Nat → Nat) (N : Nat → Int) (p len : Nat) (arr : Nat → Nat) (i : Nat)
    (hn : n ≤ 1048576) (hnm : Bn ≠ Bm) (hns : Bn ≠ Bs) (hms : Bm ≠ Bs) (hBn : Bn < w.heap.size) (hBm : Bm < w.heap.size) (hBs : tr = true → Bs < w.heap.size) (hil : i < len) (h : NodeSt w Bn Bm Bs n tr F T Q A L C N p len arr) :
    Calls Try.prog 12 #[.pointer (some ⟨Bn, 0, none⟩), .int .i64 i] w (RecPost w Bn Bm Bs n tr F T Q A L C N p len arr i) := by
  have HH : Hid (NodeSt w Bn Bm Bs n tr F T Q A L C N p len arr) := h
  clear h
  go_enter Try.func12, Try.ntmps12
  go_wp2_with fail
  refine (receive_any _ Bn Bm Bs n tr F T Q A L C N p len arr i hn hnm hns hms hil (HH.out.of_blocks (fun b hb => Below.heap_alloc _ _ _ (by rcases hb with rfl | ⟨_, rfl | ⟨h, rfl⟩⟩; exact hBn; exact hBm; exact hBs h)))).mono ?_
  rintro e w1 ⟨mb, mo, sg, rfl, h0, h1, h2, hi0, hip, htr, hpl, hst, hO⟩
  obtain ⟨u, v, hsg⟩ : ∃ u v, sg = .agg #[u, v] := by
    cases tr
    · exact ⟨_, _, hpl rfl⟩
    · exact ⟨_, _, htr rfl⟩
  subst hsg
  have hu1 : ∃ a m c, u = .slice a m c := by
    cases tr
    · exact ⟨_, _, _, by have := hpl rfl; simp at this; exact this.1⟩
    · exact ⟨_, _, _, by have := htr rfl; simp at this; exact this.1⟩
  have hv1 : ∃ m, v = .int .i64 m := by
    cases tr
    · exact ⟨_, by have := hpl rfl; simp at this; exact this.2⟩
    · exact ⟨_, by have := htr rfl; simp at this; exact this.2⟩
  obtain ⟨ua, um, uc, rfl⟩ := hu1
  obtain ⟨vm, rfl⟩ := hv1
  have hR := hO.row (rowIs_stamp0 w) (fun e => by rcases e with e | e | ⟨h, e⟩; omega; omega; have := hBs h; omega)
  have r0 : w1.cell? ⟨w.heap.size, 0, none⟩ = some (.slice none 0 0) := hR.cell (i := 0) (by omega)
  have r1 : w1.cell? ⟨w.heap.size, 1, none⟩ = some (.int .i64 0) := hR.cell (i := 1) (by omega)
  have fR := hR.frozen
  have hmb : mb ≠ w.heap.size := by
    rcases Nat.eq_zero_or_pos i with e | e
    · have := (hi0 e).1; omega
    · have := hip e; simp at this; omega
  have HF : Hid (RecPost w Bn Bm Bs n tr F T Q A L C N p len arr i (.returned (.tuple #[.pointer (some ⟨mb, mo, none⟩), .agg #[.slice ua um uc, .int .i64 vm]])) ((w1.setCell ⟨w.heap.size, 0, none⟩ (.slice ua um uc)).setCell ⟨w.heap.size, 1, none⟩ (.int .i64 vm))) := by
    refine ⟨mb, mo, _, rfl, far0 hmb (far0 hmb h0), far0 hmb (far0 hmb h1), far0 hmb (far0 hmb h2), hi0, fun h => by have := hip h; simp at this; omega, htr, hpl, ?_, ?_⟩
    · exact hst.of_blocks (fun b hb => by
        have hne : b ≠ w.heap.size := by rcases hb with rfl | ⟨_, rfl | ⟨h, rfl⟩⟩; omega; omega; have := hBs h; omega
        rw [Below.heap_setCell _ _ _ _ hne, Below.heap_setCell _ _ _ _ hne])
    · exact ((((Only.refl _ w).alloc _).trans hO).setNew (x := ⟨w.heap.size, 0, none⟩) (Nat.le_refl _) _).setNew (x := ⟨w.heap.size, 1, none⟩) (Nat.le_refl _) _
  clear h0 h1 h2 hi0 hip htr hpl hst hO hR
  go_wp2
  exact bodyPost_ret (v := .tuple #[.pointer (some ⟨mb, mo, none⟩), .agg #[.slice ua um uc, .int .i64 vm]]) (by simp [results, Try.results12, go_sem, r0, r1]) rfl HF.out

end Go.Proofs.Qxb6608660a

import Derived.Test.Qxb6608660aW8
namespace Go.Proofs.Qxb6608660a
open Go.RowKit
set_option linter.unusedSimpArgs false
set_option linter.unusedVariables false

/-- What the slots hold when place i of len (from p on) has been taken out. -/
def shift (arr : Nat → Nat) (p i len j : Nat) : Nat := if 0 < i ∧ p + i ≤ j ∧ j < p + len - 1 then arr (j + 1) else arr j

theorem mcell_shift (F T : Nat → ByteArray) (Q : Nat → Int) (arr : Nat → Nat) (p i len c : Nat) :
    (if 0 < i ∧ (p + i) * 3 ≤ c ∧ c < (p + len - 1) * 3 then mcell F T Q arr (c + 3) else mcell F T Q arr c) = mcell F T Q (shift arr p i len) c := by
  unfold mcell shift
  have e1 : (c + 3) % 3 = c % 3 := by omega
  have e2 : (c + 3) / 3 = c / 3 + 1 := by omega
  by_cases h : 0 < i ∧ (p + i) * 3 ≤ c ∧ c < (p + len - 1) * 3
  · rw [if_pos h, if_pos (show 0 < i ∧ p + i ≤ c / 3 ∧ c / 3 < p + len - 1 by omega), e1, e2]
  · rw [if_neg h, if_neg (show ¬ (0 < i ∧ p + i ≤ c / 3 ∧ c / 3 < p + len - 1) by omega)]
theorem scell_shift (A : Nat → Option Addr) (L C : Nat → Nat) (N : Nat → Int) (arr : Nat → Nat) (p i len c : Nat) :
    (if 0 < i ∧ (p + i) * 2 ≤ c ∧ c < (p + len - 1) * 2 then scell A L C N arr (c + 2) else scell A L C N arr c) = scell A L C N (shift arr p i len) c := by
  unfold scell shift
  have e1 : (c + 2) % 2 = c % 2 := by omega
  have e2 : (c + 2) / 2 = c / 2 + 1 := by omega
  by_cases h : 0 < i ∧ (p + i) * 2 ≤ c ∧ c < (p + len - 1) * 2
  · rw [if_pos h, if_pos (show 0 < i ∧ p + i ≤ c / 2 ∧ c / 2 < p + len - 1 by omega), e1, e2]
  · rw [if_neg h, if_neg (show ¬ (0 < i ∧ p + i ≤ c / 2 ∧ c / 2 < p + len - 1) by omega)]
theorem mcell_one (F T : Nat → ByteArray) (Q : Nat → Int) (arr : Nat → Nat) (c : Nat) : (mcell F T Q arr c).oneCell' = true := by
  unfold mcell; repeat' split
  all_goals rfl
theorem scell_one (A : Nat → Option Addr) (L C : Nat → Nat) (N : Nat → Int) (arr : Nat → Nat) (c : Nat) : (scell A L C N arr c).oneCell' = true := by
  unfold scell; split <;> rfl

/-- A slice of len elements from slot p on of the row B (of n slots, sz cells each). -/
def InbIs (v : Value) (B sz n p len : Nat) : Prop := ∃ ao cap, v = .slice ao len cap ∧ (0 < len → ao = some ⟨B, p * sz, none⟩ ∧ p + cap = n ∧ len ≤ cap)

def nodeF (iv sv : Value) (c : Nat) : Value := (nodeCells iv sv).getD c undef

/-- The node, its inbox, its stamps. -/
def NodeSt (w : World) (Bn Bm Bs n : Nat) (tr : Bool) (F T : Nat → ByteArray) (Q : Nat → Int) (A : Nat → Option Addr) (L C : Nat → Nat) (N : Nat → Int) (p len : Nat) (arr : Nat → Nat) : Prop :=
  ∃ iv sv, w.rowIs Bn 74 8 (nodeF iv sv) ∧ InbIs iv Bm 3 n p len ∧ (0 < n → w.rowIs Bm 45 (n * 3) (mcell F T Q arr)) ∧
    (tr = true → InbIs sv Bs 2 n p len ∧ (0 < n → w.rowIs Bs 40 (n * 2) (scell A L C N arr))) ∧ (tr = false → ∃ sa sc, sv = .slice sa 0 sc)

def RecPost (w : World) (Bn Bm Bs n : Nat) (tr : Bool) (F T : Nat → ByteArray) (Q : Nat → Int) (A : Nat → Option Addr) (L C : Nat → Nat) (N : Nat → Int) (p len : Nat) (arr : Nat → Nat) (i : Nat) (e : Ending) (w' : World) : Prop :=
  ∃ mb mo sg, e = .returned (.tuple #[.pointer (some ⟨mb, mo, none⟩), sg]) ∧
    w'.cell? ⟨mb, mo, none⟩ = some (.string (F (arr (p + i)))) ∧ w'.cell? ⟨mb, mo + 1, none⟩ = some (.string (T (arr (p + i)))) ∧ w'.cell? ⟨mb, mo + 2, none⟩ = some (.iface 3 (.int .i64 (Q (arr (p + i))))) ∧
    (i = 0 → mb = Bm ∧ mo = p * 3) ∧ (0 < i → w.heap.size ≤ mb) ∧
    (tr = true → sg = .agg #[.slice (A (arr (p + i))) (L (arr (p + i))) (C (arr (p + i))), .int .i64 (N (arr (p + i)))]) ∧ (tr = false → sg = .agg #[.slice none 0 0, .int .i64 0]) ∧
    NodeSt w' Bn Bm Bs n tr F T Q A L C N (if i = 0 then p + 1 else p) (len - 1) (shift arr p i len) ∧ Only (fun k => k = Bn ∨ k = Bm ∨ (tr = true ∧ k = Bs)) w w'

theorem Only.row {p : Nat → Prop} {w w' : World} {b : Nat} {t : TypeId} {n : Nat} {f : Nat → Value} (h : Only p w w') (hr : w.rowIs b t n f) (hp : ¬ p b) : w'.rowIs b t n f := hr.of_block (h.block b hr.lt hp)

theorem nodeF_set3 (iv sv v : Value) (c : Nat) (hc : c < 8) : (if c = 3 then v else nodeF iv sv c) = nodeF v sv c := by
  unfold nodeF nodeCells
  match c, hc with
  | 0, _ => rfl
  | 1, _ => rfl
  | 2, _ => rfl
  | 3, _ => rfl
  | 4, _ => rfl
  | 5, _ => rfl
  | 6, _ => rfl
  | 7, _ => rfl
theorem nodeF_set4 (iv sv v : Value) (c : Nat) (hc : c < 8) : (if c = 4 then v else nodeF iv sv c) = nodeF iv v c := by
  unfold nodeF nodeCells
  match c, hc with
  | 0, _ => rfl
  | 1, _ => rfl
  | 2, _ => rfl
  | 3, _ => rfl
  | 4, _ => rfl
  | 5, _ => rfl
  | 6, _ => rfl
  | 7, _ => rfl

/-- The zero stamp's row, as a new variable. -/
theorem rowIs_stamp0 (w : World) : (w.alloc (.cells #[.slice none 0 0, .int .i64 0] 40)).rowIs w.heap.size 40 2 (fun c => (#[Value.slice none 0 0, .int .i64 0]).getD c undef) :=
  World.rowIs_alloc w _ 40 _ (fun i hi => by
    match i, hi with
    | 0, _ => rfl
    | 1, _ => rfl)

theorem far0 {w : World} {b o B k : Nat} {u v : Value} (hb : b ≠ B) (hw : w.cell? ⟨b, o, none⟩ = some v) : (w.setCell ⟨B, k, none⟩ u).cell? ⟨b, o, none⟩ = some v := by
  rw [World.cell?_setCell_other _ _ _ _ (fun e => by have := congrArg Addr.block e; simp at this; omega)]; exact hw
theorem farA {w : World} {a : Addr} {v : Value} {O : Obj} (h : w.cell? a = some v) : (w.alloc O).cell? a = some v := (World.cell?_alloc_lt _ _ _ (World.block_lt_of_cell? _ _ h)).trans h
theorem far1 {w1 : World} {b o Bn k : Nat} {v v3 : Value} {O : Obj} (h : w1.cell? ⟨b, o, none⟩ = some v) (h1 : b ≠ Bn) : ((w1.setCell ⟨Bn, k, none⟩ v3).alloc O).cell? ⟨b, o, none⟩ = some v := farA (far0 h1 h)
theorem far3 {w1 : World} {b o Bn H k : Nat} {v v3 s0 s1 : Value} (h : w1.cell? ⟨b, o, none⟩ = some v) (h1 : b ≠ Bn) (h2 : b ≠ H) :
    (((w1.setCell ⟨Bn, k, none⟩ v3).setCell ⟨H, 0, none⟩ s0).setCell ⟨H, 1, none⟩ s1).drew.cell? ⟨b, o, none⟩ = some v := far0 (v := v) h2 (far0 h2 (far0 h1 h))
theorem far4 {w1 : World} {b o Bn H : Nat} {v v3 s0 s1 : Value} {O : Obj} (h : w1.cell? ⟨b, o, none⟩ = some v) (h1 : b ≠ Bn) (h2 : b ≠ H) :
    ((((w1.setCell ⟨Bn, 3, none⟩ v3).setCell ⟨H, 0, none⟩ s0).setCell ⟨H, 1, none⟩ s1).alloc O).drew.cell? ⟨b, o, none⟩ = some v := farA (far0 h2 (far0 h2 (far0 h1 h)))
/-- The two cells of a block that is new. -/
theorem cell_new2 {w : World} {H : Nat} {u v : Value} {t : TypeId} (h : w.heap.size = H) : (w.alloc (.cells #[u, v] t)).cell? ⟨H, 0, none⟩ = some u ∧ (w.alloc (.cells #[u, v] t)).cell? ⟨H, 1, none⟩ = some v := by
  subst h; simp

set_option maxRecDepth 100000 in
set_option maxHeartbeats 1000000 in
theorem receive_zero_plain (w : World) (Bn Bm Bs n : Nat) (F T : Nat → ByteArray) (Q : Nat → Int) (A : Nat → Option Addr) (L C : Nat → Nat) (N : Nat → Int) (p len : Nat) (arr : Nat → Nat)
    (hn : n ≤ 1048576) (hnm : Bn ≠ Bm) (hlen : 0 < len) (h : NodeSt w Bn Bm Bs n false F T Q A L C N p len arr) :
    Calls Try.prog 27 #[.pointer (some ⟨Bn, 0, none⟩), .int .i64 0] w (RecPost w Bn Bm Bs n false F T Q A L C N p len arr 0) := by
  obtain ⟨iv, sv, hN, ⟨ao, cap, rfl, hao⟩, hM, _, hU⟩ := h
  obtain ⟨rfl, hpc, hlc⟩ := hao (by omega)
  obtain ⟨sa, sc, rfl⟩ := hU rfl
  have hM := hM (by omega)
  have c3 : w.cell? ⟨Bn, 3, none⟩ = some (.slice (some ⟨Bm, p * 3, none⟩) len cap) := hN.cell (i := 3) (by omega)
  have hlN := hN.lt
  have hlM := hM.lt
  have HN : Hid (w.rowIs Bn 74 8 (nodeF (.slice (some ⟨Bm, p * 3, none⟩) len cap) (.slice sa 0 sc))) := hN
  have HM : Hid (w.rowIs Bm 45 (n * 3) (mcell F T Q arr)) := hM
  clear hao hN hM hU
  go_enter Try.func27, Try.ntmps27
  go_wp2_with fail
  refine (without34_zero Bm n p len cap (mcell F T Q arr) _ hn hpc hlc hlen (HM.out.alloc _)).mono ?_
  rintro e w1 ⟨ao, cap', rfl, hao', hM1, hO1, hz1⟩
  have hN1 := hO1.row (HN.out.alloc _) hnm
  have hR1 := hO1.row (rowIs_stamp0 w) (fun e => by omega)
  have d3 := hN1.cell (i := 3) (by omega)
  have d4 : w1.cell? ⟨Bn, 4, none⟩ = some (.slice sa 0 sc) := hN1.cell (i := 4) (by omega)
  have r0 : w1.cell? ⟨w.heap.size, 0, none⟩ = some (.slice none 0 0) := hR1.cell (i := 0) (by omega)
  have r1 : w1.cell? ⟨w.heap.size, 1, none⟩ = some (.int .i64 0) := hR1.cell (i := 1) (by omega)
  have fN := hN1.frozen
  have fR := hR1.frozen
  have hz : w1.heap.size = w.heap.size + 1 := by simpa using hz1
  have hne : Bn ≠ w.heap.size := by omega
  have hb1 : Bn < w.heap.size + 1 := by omega
  have hb2 : w.heap.size < w.heap.size + 1 := by omega
  have hO : Only (fun k => k = Bn ∨ k = Bm ∨ (false = true ∧ k = Bs)) w w1 := ((Only.refl _ w).alloc _).trans (hO1.mono (fun k hk => .inr (.inl hk)))
  have HF : Hid (RecPost w Bn Bm Bs n false F T Q A L C N p len arr 0 (.returned (.tuple #[.pointer (some ⟨Bm, p * 3, none⟩), .agg #[.slice none 0 0, .int .i64 0]]))
      (((((w1.setCell ⟨Bn, 3, none⟩ (.slice ao (len - 1) cap')).setCell ⟨w.heap.size, 0, none⟩ (.slice none 0 0)).setCell ⟨w.heap.size, 1, none⟩ (.int .i64 0)).alloc (.cells #[.slice none 0 0, .int .i64 0] 40)).drew)) := by
    have hM2 := ((((hM1.congr (fun c _ => mcell_shift F T Q arr p 0 len c)).setOther (a := ⟨Bn, 3, none⟩) (fun e => hnm e.symm) (.slice ao (len - 1) cap')).setOther (a := ⟨w.heap.size, 0, none⟩) (Nat.ne_of_lt hlM) (.slice none 0 0)).setOther (a := ⟨w.heap.size, 1, none⟩) (Nat.ne_of_lt hlM) (.int .i64 0)).alloc (.cells #[.slice none 0 0, .int .i64 0] 40)
    have hN2 := ((((hN1.set 3 (.slice ao (len - 1) cap')).congr (fun c hc => nodeF_set3 _ _ _ c hc)).setOther (a := ⟨w.heap.size, 0, none⟩) (Nat.ne_of_lt hlN) (.slice none 0 0)).setOther (a := ⟨w.heap.size, 1, none⟩) (Nat.ne_of_lt hlN) (.int .i64 0)).alloc (.cells #[.slice none 0 0, .int .i64 0] 40)
    have es : shift arr p 0 len p = arr (p + 0) := by simp [shift]
    refine ⟨Bm, p * 3, _, rfl, ?_, ?_, ?_, fun _ => ⟨rfl, rfl⟩, fun h => absurd h (by omega), fun h => (by cases h), fun _ => rfl, ?_, ?_⟩
    · exact (hM2.cell (i := p * 3) (by omega)).trans (by rw [mcell0, es])
    · exact (hM2.cell (i := p * 3 + 1) (by omega)).trans (by rw [mcell1, es])
    · exact (hM2.cell (i := p * 3 + 2) (by omega)).trans (by rw [mcell2, es])
    · exact ⟨_, _, hN2.drew, ⟨ao, cap', rfl, hao'⟩, fun _ => hM2.drew, fun h => (by cases h), fun _ => ⟨sa, sc, rfl⟩⟩
    · exact ((((hO.setCell (x := ⟨Bn, 3, none⟩) (.inl rfl) _).setNew (x := ⟨w.heap.size, 0, none⟩) (Nat.le_refl _) _).setNew (x := ⟨w.heap.size, 1, none⟩) (Nat.le_refl _) _).alloc _).drew
  clear hao' hM1 hO1 hz1 hN1 hR1 hO
  go_wp2
  go_region
  all_goals go_wp2
  exact bodyPost_ret (v := .tuple #[.pointer (some ⟨Bm, p * 3, none⟩), .agg #[.slice none 0 0, .int .i64 0]]) (by simp [results, Try.results27, go_sem, hz, r0, r1, hne]) rfl HF.out

set_option maxRecDepth 100000 in
set_option maxHeartbeats 1000000 in
theorem receive_pos_plain (w : World) (Bn Bm Bs n : Nat) (F T : Nat → ByteArray) (Q : Nat → Int) (A : Nat → Option Addr) (L C : Nat → Nat) (N : Nat → Int) (p len : Nat) (arr : Nat → Nat) (i : Nat)
    (hn : n ≤ 1048576) (hnm : Bn ≠ Bm) (hi : 0 < i) (hil : i < len) (h : NodeSt w Bn Bm Bs n false F T Q A L C N p len arr) :
    Calls Try.prog 27 #[.pointer (some ⟨Bn, 0, none⟩), .int .i64 i] w (RecPost w Bn Bm Bs n false F T Q A L C N p len arr i) := by
  obtain ⟨iv, sv, hN, ⟨ao, cap, rfl, hao⟩, hM, _, hU⟩ := h
  obtain ⟨rfl, hpc, hlc⟩ := hao (by omega)
  obtain ⟨sa, sc, rfl⟩ := hU rfl
  have hM := hM (by omega)
  have c3 : w.cell? ⟨Bn, 3, none⟩ = some (.slice (some ⟨Bm, p * 3, none⟩) len cap) := hN.cell (i := 3) (by omega)
  have m0 : w.cell? ⟨Bm, p * 3 + i * 3, none⟩ = some (.string (F (arr (p + i)))) := by
    rw [show p * 3 + i * 3 = (p + i) * 3 by omega, hM.cell (by omega), mcell0]
  have m1 : w.cell? ⟨Bm, p * 3 + i * 3 + 1, none⟩ = some (.string (T (arr (p + i)))) := by
    rw [show p * 3 + i * 3 = (p + i) * 3 by omega, hM.cell (by omega), mcell1]
  have m2 : w.cell? ⟨Bm, p * 3 + i * 3 + 2, none⟩ = some (.iface 3 (.int .i64 (Q (arr (p + i))))) := by
    rw [show p * 3 + i * 3 = (p + i) * 3 by omega, hM.cell (by omega), mcell2]
  have hzi : ((i : Int) == 0) = false := by rw [beq_eq_false_iff_ne]; omega
  have hlN := hN.lt
  have hlM := hM.lt
  have HN : Hid (w.rowIs Bn 74 8 (nodeF (.slice (some ⟨Bm, p * 3, none⟩) len cap) (.slice sa 0 sc))) := hN
  have HM : Hid (w.rowIs Bm 45 (n * 3) (mcell F T Q arr)) := hM
  clear hao hN hM hU
  go_enter Try.func27, Try.ntmps27
  go_wp2_with fail
  refine (without34_pos Bm n p len cap i (mcell F T Q arr) _ hn hpc hlc hi hil ((HM.out.alloc _).alloc _) (fun c _ => mcell_one F T Q arr c)).mono ?_
  rintro e w1 ⟨ao, cap', rfl, hao', hM1, hO1, hz1⟩
  have hN1 := hO1.row ((HN.out.alloc _).alloc _) hnm
  have hR1 := hO1.row ((rowIs_stamp0 w).alloc _) (fun e => by omega)
  have g0 : w1.cell? ⟨w.heap.size + 1, 0, none⟩ = some (.string (F (arr (p + i)))) := (hO1.cell (x := ⟨w.heap.size + 1, 0, none⟩) (by simp) (fun e => by simp at e; omega)).trans (by simp)
  have g1 : w1.cell? ⟨w.heap.size + 1, 1, none⟩ = some (.string (T (arr (p + i)))) := (hO1.cell (x := ⟨w.heap.size + 1, 1, none⟩) (by simp) (fun e => by simp at e; omega)).trans (by simp)
  have g2 : w1.cell? ⟨w.heap.size + 1, 2, none⟩ = some (.iface 3 (.int .i64 (Q (arr (p + i))))) := (hO1.cell (x := ⟨w.heap.size + 1, 2, none⟩) (by simp) (fun e => by simp at e; omega)).trans (by simp)
  have d3 := hN1.cell (i := 3) (by omega)
  have d4 : w1.cell? ⟨Bn, 4, none⟩ = some (.slice sa 0 sc) := hN1.cell (i := 4) (by omega)
  have r0 : w1.cell? ⟨w.heap.size, 0, none⟩ = some (.slice none 0 0) := hR1.cell (i := 0) (by omega)
  have r1 : w1.cell? ⟨w.heap.size, 1, none⟩ = some (.int .i64 0) := hR1.cell (i := 1) (by omega)
  have fN := hN1.frozen
  have fR := hR1.frozen
  have hz : w1.heap.size = w.heap.size + 2 := by simpa using hz1
  have hne : Bn ≠ w.heap.size := by omega
  have hb1 : Bn < w.heap.size + 2 := by omega
  have hb2 : w.heap.size < w.heap.size + 2 := by omega
  have hO : Only (fun k => k = Bn ∨ k = Bm ∨ (false = true ∧ k = Bs)) w w1 := (((Only.refl _ w).alloc _).alloc _).trans (hO1.mono (fun k hk => .inr (.inl hk)))
  have HF : Hid (RecPost w Bn Bm Bs n false F T Q A L C N p len arr i (.returned (.tuple #[.pointer (some ⟨w.heap.size + 1, 0, none⟩), .agg #[.slice none 0 0, .int .i64 0]]))
      (((((w1.setCell ⟨Bn, 3, none⟩ (.slice ao (len - 1) cap')).setCell ⟨w.heap.size, 0, none⟩ (.slice none 0 0)).setCell ⟨w.heap.size, 1, none⟩ (.int .i64 0)).alloc (.cells #[.slice none 0 0, .int .i64 0] 40)).drew)) := by
    have hM2 := ((((hM1.congr (fun c _ => mcell_shift F T Q arr p i len c)).setOther (a := ⟨Bn, 3, none⟩) (fun e => hnm e.symm) (.slice ao (len - 1) cap')).setOther (a := ⟨w.heap.size, 0, none⟩) (Nat.ne_of_lt hlM) (.slice none 0 0)).setOther (a := ⟨w.heap.size, 1, none⟩) (Nat.ne_of_lt hlM) (.int .i64 0)).alloc (.cells #[.slice none 0 0, .int .i64 0] 40)
    have hN2 := ((((hN1.set 3 (.slice ao (len - 1) cap')).congr (fun c hc => nodeF_set3 _ _ _ c hc)).setOther (a := ⟨w.heap.size, 0, none⟩) (Nat.ne_of_lt hlN) (.slice none 0 0)).setOther (a := ⟨w.heap.size, 1, none⟩) (Nat.ne_of_lt hlN) (.int .i64 0)).alloc (.cells #[.slice none 0 0, .int .i64 0] 40)
    refine ⟨w.heap.size + 1, 0, _, rfl, ?_, ?_, ?_, fun h => absurd h (by omega), fun _ => Nat.le_succ _, fun h => (by cases h), fun _ => rfl, ?_, ?_⟩
    · exact far4 g0 (by omega) (by omega)
    · exact far4 g1 (by omega) (by omega)
    · exact far4 g2 (by omega) (by omega)
    · exact ⟨_, _, hN2.drew, ⟨ao, cap', rfl, hao'⟩, fun _ => hM2.drew, fun h => (by cases h), fun _ => ⟨sa, sc, rfl⟩⟩
    · exact ((((hO.setCell (x := ⟨Bn, 3, none⟩) (.inl rfl) _).setNew (x := ⟨w.heap.size, 0, none⟩) (Nat.le_refl _) _).setNew (x := ⟨w.heap.size, 1, none⟩) (Nat.le_refl _) _).alloc _).drew
  clear hao' hM1 hO1 hz1 hN1 hR1 hO
  go_wp2
  go_region
  all_goals go_wp2
  exact bodyPost_ret (v := .tuple #[.pointer (some ⟨w.heap.size + 1, 0, none⟩), .agg #[.slice none 0 0, .int .i64 0]]) (by simp [results, Try.results27, go_sem, hz, r0, r1, hne]) rfl HF.out

set_option maxRecDepth 100000 in
set_option maxHeartbeats 1000000 in
theorem receive_zero_traced (w : World) (Bn Bm Bs n : Nat) (F T : Nat → ByteArray) (Q : Nat → Int) (A : Nat → Option Addr) (L C : Nat → Nat) (N : Nat → Int) (p len : Nat) (arr : Nat → Nat)
    (hn : n ≤ 1048576) (hnm : Bn ≠ Bm) (hlen : 0 < len) (hns : Bn ≠ Bs) (hms : Bm ≠ Bs) (h : NodeSt w Bn Bm Bs n true F T Q A L C N p len arr) :
    Calls Try.prog 27 #[.pointer (some ⟨Bn, 0, none⟩), .int .i64 0] w (RecPost w Bn Bm Bs n true F T Q A L C N p len arr 0) := by
  obtain ⟨iv, sv, hN, ⟨ao, cap, rfl, hao⟩, hM, hT, _⟩ := h
  obtain ⟨rfl, hpc, hlc⟩ := hao (by omega)
  obtain ⟨⟨sa, sc, rfl, hsa⟩, hS⟩ := hT rfl
  obtain ⟨rfl, hpc2, hlc2⟩ := hsa (by omega)
  have hM := hM (by omega)
  have hS := hS (by omega)
  have c3 : w.cell? ⟨Bn, 3, none⟩ = some (.slice (some ⟨Bm, p * 3, none⟩) len cap) := hN.cell (i := 3) (by omega)
  have hlN := hN.lt
  have hlM := hM.lt
  have hlS := hS.lt
  have HS : Hid (w.rowIs Bs 40 (n * 2) (scell A L C N arr)) := hS
  have HN : Hid (w.rowIs Bn 74 8 (nodeF (.slice (some ⟨Bm, p * 3, none⟩) len cap) (.slice (some ⟨Bs, p * 2, none⟩) len sc))) := hN
  have HM : Hid (w.rowIs Bm 45 (n * 3) (mcell F T Q arr)) := hM
  clear hao hN hM hT hsa hS
  go_enter Try.func27, Try.ntmps27
  go_wp2_with fail
  refine (without34_zero Bm n p len cap (mcell F T Q arr) _ hn hpc hlc hlen (HM.out.alloc _)).mono ?_
  rintro e w1 ⟨ao, cap', rfl, hao', hM1, hO1, hz1⟩
  have hN1 := hO1.row (HN.out.alloc _) hnm
  have hR1 := hO1.row (rowIs_stamp0 w) (fun e => by omega)
  have hS1 := hO1.row (HS.out.alloc _) (fun e => hms e.symm)
  have d3 := hN1.cell (i := 3) (by omega)
  have d4 : w1.cell? ⟨Bn, 4, none⟩ = some (.slice (some ⟨Bs, p * 2, none⟩) len sc) := hN1.cell (i := 4) (by omega)
  have r0 : w1.cell? ⟨w.heap.size, 0, none⟩ = some (.slice none 0 0) := hR1.cell (i := 0) (by omega)
  have r1 : w1.cell? ⟨w.heap.size, 1, none⟩ = some (.int .i64 0) := hR1.cell (i := 1) (by omega)
  have fN := hN1.frozen
  have fR := hR1.frozen
  have hz : w1.heap.size = w.heap.size + 1 := by simpa using hz1
  have hne : Bn ≠ w.heap.size := by omega
  have hb1 : Bn < w.heap.size + 1 := by omega
  have hb2 : w.heap.size < w.heap.size + 1 := by omega
  have hO : Only (fun k => k = Bn ∨ k = Bm ∨ (true = true ∧ k = Bs)) w w1 := ((Only.refl _ w).alloc _).trans (hO1.mono (fun k hk => .inr (.inl hk)))
  have s0 : w1.cell? ⟨Bs, p * 2, none⟩ = some (.slice (A (arr (p + 0))) (L (arr (p + 0))) (C (arr (p + 0)))) := by
    rw [show p * 2 = (p + 0) * 2 by omega, hS1.cell (by omega), scell0]
  have s1 : w1.cell? ⟨Bs, p * 2 + 1, none⟩ = some (.int .i64 (N (arr (p + 0)))) := by
    rw [show p * 2 = (p + 0) * 2 by omega, hS1.cell (by omega), scell1]
  have hnS : Bn ≠ Bs := hns
  have hl0 : (0 : Int) < (len : Int) := by omega
  have hb3 : Bs < w.heap.size + 1 := by omega
  have HM1 : Hid (w1.rowIs Bm 45 (n * 3) (mcell F T Q (shift arr p 0 len))) := hM1.congr (fun c _ => mcell_shift F T Q arr p 0 len c)
  have HN1 : Hid (w1.rowIs Bn 74 8 (nodeF (.slice (some ⟨Bm, p * 3, none⟩) len cap) (.slice (some ⟨Bs, p * 2, none⟩) len sc))) := hN1
  have HR1 : Hid (w1.rowIs w.heap.size 40 2 (fun c => (#[Value.slice none 0 0, .int .i64 0]).getD c undef)) := hR1
  have HS1 : Hid (w1.rowIs Bs 40 (n * 2) (scell A L C N arr)) := hS1
  have HO : Hid (Only (fun k => k = Bn ∨ k = Bm ∨ (true = true ∧ k = Bs)) w w1) := hO
  have HA : Hid (0 < len - 1 → ao = some ⟨Bm, (if 0 = 0 then p + 1 else p) * 3, none⟩ ∧ (if 0 = 0 then p + 1 else p) + cap' = n ∧ len - 1 ≤ cap') := hao'
  clear hao' hM1 hO1 hz1 hN1 hR1 hS1 hO
  go_wp2_with fail
  refine (without35_zero Bs n p len sc (scell A L C N arr) _ hn hpc2 hlc2 hlen ((HS1.out.setOther (a := ⟨Bn, 3, none⟩) (fun e => hns e.symm) _).alloc _)).mono ?_
  rintro e w3 ⟨so, sc', rfl, hso', hS3, hO3, hz3⟩
  have hN2 := (HN1.out.set 3 (.slice ao (len - 1) cap')).congr (fun c hc => nodeF_set3 _ _ _ c hc)
  have hM3 := hO3.row ((HM1.out.setOther (a := ⟨Bn, 3, none⟩) (fun e => hnm e.symm) (.slice ao (len - 1) cap')).alloc (.cells #[.slice (A (arr (p + 0))) (L (arr (p + 0))) (C (arr (p + 0))), .int .i64 (N (arr (p + 0)))] 40)) hms
  have hN3 := hO3.row (hN2.alloc (.cells #[.slice (A (arr (p + 0))) (L (arr (p + 0))) (C (arr (p + 0))), .int .i64 (N (arr (p + 0)))] 40)) hns
  have hR3 := hO3.row ((HR1.out.setOther (a := ⟨Bn, 3, none⟩) (Ne.symm hne) (.slice ao (len - 1) cap')).alloc (.cells #[.slice (A (arr (p + 0))) (L (arr (p + 0))) (C (arr (p + 0))), .int .i64 (N (arr (p + 0)))] 40)) (fun e => by omega)
  have hO4 : Only (fun k => k = Bn ∨ k = Bm ∨ (true = true ∧ k = Bs)) w w3 := (((HO.out.mono (fun k hk => by simpa using hk)).setCell (x := ⟨Bn, 3, none⟩) (.inl rfl) _).alloc _).trans (hO3.mono (fun k hk => .inr (.inr ⟨by simp, hk⟩)))
  have t3 := hN3.cell (i := 4) (by omega)
  have fN3 := hN3.frozen
  have fR3 := hR3.frozen
  have q0 : w3.cell? ⟨w.heap.size, 0, none⟩ = some (.slice none 0 0) := hR3.cell (i := 0) (by omega)
  have q1 : w3.cell? ⟨w.heap.size, 1, none⟩ = some (.int .i64 0) := hR3.cell (i := 1) (by omega)
  have ez : (w1.setCell ⟨Bn, 3, none⟩ (.slice ao (len - 1) cap')).heap.size = w.heap.size + 1 := by rw [← hz]; simp [World.setCell]
  have a0 : w3.cell? ⟨w.heap.size + 1, 0, none⟩ = some (.slice (A (arr (p + 0))) (L (arr (p + 0))) (C (arr (p + 0)))) := (hO3.cell (x := ⟨w.heap.size + 1, 0, none⟩) (by simp [hz]) (fun e => by simp at e; omega)).trans (cell_new2 ez).1
  have a1 : w3.cell? ⟨w.heap.size + 1, 1, none⟩ = some (.int .i64 (N (arr (p + 0)))) := (hO3.cell (x := ⟨w.heap.size + 1, 1, none⟩) (by simp [hz]) (fun e => by simp at e; omega)).trans (cell_new2 ez).2
  have hne3 : Bn ≠ w.heap.size + 1 := by omega
  have hne4 : w.heap.size ≠ w.heap.size + 1 := by omega
  have HF : Hid (RecPost w Bn Bm Bs n true F T Q A L C N p len arr 0 (.returned (.tuple #[.pointer (some ⟨Bm, p * 3, none⟩), .agg #[.slice (A (arr (p + 0))) (L (arr (p + 0))) (C (arr (p + 0))), .int .i64 (N (arr (p + 0)))]]))
      (((((w3.setCell ⟨Bn, 4, none⟩ (.slice so (len - 1) sc')).setCell ⟨w.heap.size, 0, none⟩ (.slice (A (arr (p + 0))) (L (arr (p + 0))) (C (arr (p + 0))))).setCell ⟨w.heap.size, 1, none⟩ (.int .i64 (N (arr (p + 0)))))).drew)) := by
    have hM5 := (((hM3.setOther (a := ⟨Bn, 4, none⟩) (fun e => hnm e.symm) (.slice so (len - 1) sc')).setOther (a := ⟨w.heap.size, 0, none⟩) (Nat.ne_of_lt hlM) (.slice (A (arr (p + 0))) (L (arr (p + 0))) (C (arr (p + 0))))).setOther (a := ⟨w.heap.size, 1, none⟩) (Nat.ne_of_lt hlM) (.int .i64 (N (arr (p + 0))))).drew
    have hS5 := ((((hS3.congr (fun c _ => scell_shift A L C N arr p 0 len c)).setOther (a := ⟨Bn, 4, none⟩) (fun e => hns e.symm) (.slice so (len - 1) sc')).setOther (a := ⟨w.heap.size, 0, none⟩) (Nat.ne_of_lt hlS) (.slice (A (arr (p + 0))) (L (arr (p + 0))) (C (arr (p + 0))))).setOther (a := ⟨w.heap.size, 1, none⟩) (Nat.ne_of_lt hlS) (.int .i64 (N (arr (p + 0))))).drew
    have hN5 := ((((hN3.set 4 (.slice so (len - 1) sc')).congr (fun c hc => nodeF_set4 _ _ _ c hc)).setOther (a := ⟨w.heap.size, 0, none⟩) (Nat.ne_of_lt hlN) (.slice (A (arr (p + 0))) (L (arr (p + 0))) (C (arr (p + 0))))).setOther (a := ⟨w.heap.size, 1, none⟩) (Nat.ne_of_lt hlN) (.int .i64 (N (arr (p + 0))))).drew
    have es : shift arr p 0 len p = arr (p + 0) := by simp [shift]
    refine ⟨Bm, p * 3, _, rfl, ?_, ?_, ?_, fun _ => ⟨rfl, rfl⟩, fun h => absurd h (by omega), fun _ => rfl, fun h => (by cases h), ?_, ?_⟩
    · exact (hM5.cell (i := p * 3) (by omega)).trans (by rw [mcell0, es])
    · exact (hM5.cell (i := p * 3 + 1) (by omega)).trans (by rw [mcell1, es])
    · exact (hM5.cell (i := p * 3 + 2) (by omega)).trans (by rw [mcell2, es])
    · exact ⟨_, _, hN5, ⟨ao, cap', rfl, HA.out⟩, fun _ => hM5, fun _ => ⟨⟨so, sc', rfl, hso'⟩, fun _ => hS5⟩, fun h => (by cases h)⟩
    · exact ((((hO4.setCell (x := ⟨Bn, 4, none⟩) (.inl rfl) _).setNew (x := ⟨w.heap.size, 0, none⟩) (Nat.le_refl _) _).setNew (x := ⟨w.heap.size, 1, none⟩) (Nat.le_refl _) _)).drew
  clear hso' hS3 hO3 hz3 hN2 hM3 hN3 hR3 hO4 ez
  go_wp2
  go_region
  all_goals go_wp2
  exact bodyPost_ret (v := .tuple #[.pointer (some ⟨Bm, p * 3, none⟩), .agg #[.slice (A (arr (p + 0))) (L (arr (p + 0))) (C (arr (p + 0))), .int .i64 (N (arr (p + 0)))]]) (by simp [results, Try.results27, go_sem, q0, q1, hne]) rfl HF.out

set_option maxRecDepth 100000 in
set_option maxHeartbeats 1000000 in
theorem receive_pos_traced (w : World) (Bn Bm Bs n : Nat) (F T : Nat → ByteArray) (Q : Nat → Int) (A : Nat → Option Addr) (L C : Nat → Nat) (N : Nat → Int) (p len : Nat) (arr : Nat → Nat) (i : Nat)
    (hn : n ≤ 1048576) (hnm : Bn ≠ Bm) (hi : 0 < i) (hil : i < len) (hns : Bn ≠ Bs) (hms : Bm ≠ Bs) (h : NodeSt w Bn Bm Bs n true F T Q A L C N p len arr) :
    Calls Try.prog 27 #[.pointer (some ⟨Bn, 0, none⟩), .int .i64 i] w (RecPost w Bn Bm Bs n true F T Q A L C N p len arr i) := by
  obtain ⟨iv, sv, hN, ⟨ao, cap, rfl, hao⟩, hM, hT, _⟩ := h
  obtain ⟨rfl, hpc, hlc⟩ := hao (by omega)
  obtain ⟨⟨sa, sc, rfl, hsa⟩, hS⟩ := hT rfl
  obtain ⟨rfl, hpc2, hlc2⟩ := hsa (by omega)
  have hM := hM (by omega)
  have hS := hS (by omega)
  have c3 : w.cell? ⟨Bn, 3, none⟩ = some (.slice (some ⟨Bm, p * 3, none⟩) len cap) := hN.cell (i := 3) (by omega)
  have m0 : w.cell? ⟨Bm, p * 3 + i * 3, none⟩ = some (.string (F (arr (p + i)))) := by
    rw [show p * 3 + i * 3 = (p + i) * 3 by omega, hM.cell (by omega), mcell0]
  have m1 : w.cell? ⟨Bm, p * 3 + i * 3 + 1, none⟩ = some (.string (T (arr (p + i)))) := by
    rw [show p * 3 + i * 3 = (p + i) * 3 by omega, hM.cell (by omega), mcell1]
  have m2 : w.cell? ⟨Bm, p * 3 + i * 3 + 2, none⟩ = some (.iface 3 (.int .i64 (Q (arr (p + i))))) := by
    rw [show p * 3 + i * 3 = (p + i) * 3 by omega, hM.cell (by omega), mcell2]
  have hzi : ((i : Int) == 0) = false := by rw [beq_eq_false_iff_ne]; omega
  have hlN := hN.lt
  have hlM := hM.lt
  have hlS := hS.lt
  have HS : Hid (w.rowIs Bs 40 (n * 2) (scell A L C N arr)) := hS
  have HN : Hid (w.rowIs Bn 74 8 (nodeF (.slice (some ⟨Bm, p * 3, none⟩) len cap) (.slice (some ⟨Bs, p * 2, none⟩) len sc))) := hN
  have HM : Hid (w.rowIs Bm 45 (n * 3) (mcell F T Q arr)) := hM
  clear hao hN hM hT hsa hS
  go_enter Try.func27, Try.ntmps27
  go_wp2_with fail
  refine (without34_pos Bm n p len cap i (mcell F T Q arr) _ hn hpc hlc hi hil ((HM.out.alloc _).alloc _) (fun c _ => mcell_one F T Q arr c)).mono ?_
  rintro e w1 ⟨ao, cap', rfl, hao', hM1, hO1, hz1⟩
  have hN1 := hO1.row ((HN.out.alloc _).alloc _) hnm
  have hR1 := hO1.row ((rowIs_stamp0 w).alloc _) (fun e => by omega)
  have hS1 := hO1.row ((HS.out.alloc _).alloc _) (fun e => hms e.symm)
  have g0 : w1.cell? ⟨w.heap.size + 1, 0, none⟩ = some (.string (F (arr (p + i)))) := (hO1.cell (x := ⟨w.heap.size + 1, 0, none⟩) (by simp) (fun e => by simp at e; omega)).trans (by simp)
  have g1 : w1.cell? ⟨w.heap.size + 1, 1, none⟩ = some (.string (T (arr (p + i)))) := (hO1.cell (x := ⟨w.heap.size + 1, 1, none⟩) (by simp) (fun e => by simp at e; omega)).trans (by simp)
  have g2 : w1.cell? ⟨w.heap.size + 1, 2, none⟩ = some (.iface 3 (.int .i64 (Q (arr (p + i))))) := (hO1.cell (x := ⟨w.heap.size + 1, 2, none⟩) (by simp) (fun e => by simp at e; omega)).trans (by simp)
  have d3 := hN1.cell (i := 3) (by omega)
  have d4 : w1.cell? ⟨Bn, 4, none⟩ = some (.slice (some ⟨Bs, p * 2, none⟩) len sc) := hN1.cell (i := 4) (by omega)
  have r0 : w1.cell? ⟨w.heap.size, 0, none⟩ = some (.slice none 0 0) := hR1.cell (i := 0) (by omega)
  have r1 : w1.cell? ⟨w.heap.size, 1, none⟩ = some (.int .i64 0) := hR1.cell (i := 1) (by omega)
  have fN := hN1.frozen
  have fR := hR1.frozen
  have hz : w1.heap.size = w.heap.size + 2 := by simpa using hz1
  have hne : Bn ≠ w.heap.size := by omega
  have hb1 : Bn < w.heap.size + 2 := by omega
  have hb2 : w.heap.size < w.heap.size + 2 := by omega
  have hO : Only (fun k => k = Bn ∨ k = Bm ∨ (true = true ∧ k = Bs)) w w1 := (((Only.refl _ w).alloc _).alloc _).trans (hO1.mono (fun k hk => .inr (.inl hk)))
  have s0 : w1.cell? ⟨Bs, p * 2 + i * 2, none⟩ = some (.slice (A (arr (p + i))) (L (arr (p + i))) (C (arr (p + i)))) := by
    rw [show p * 2 + i * 2 = (p + i) * 2 by omega, hS1.cell (by omega), scell0]
  have s1 : w1.cell? ⟨Bs, p * 2 + i * 2 + 1, none⟩ = some (.int .i64 (N (arr (p + i)))) := by
    rw [show p * 2 + i * 2 = (p + i) * 2 by omega, hS1.cell (by omega), scell1]
  have hnS : Bn ≠ Bs := hns
  have hl0 : (0 : Int) < (len : Int) := by omega
  have hb3 : Bs < w.heap.size + 2 := by omega
  have HM1 : Hid (w1.rowIs Bm 45 (n * 3) (mcell F T Q (shift arr p i len))) := hM1.congr (fun c _ => mcell_shift F T Q arr p i len c)
  have HN1 : Hid (w1.rowIs Bn 74 8 (nodeF (.slice (some ⟨Bm, p * 3, none⟩) len cap) (.slice (some ⟨Bs, p * 2, none⟩) len sc))) := hN1
  have HR1 : Hid (w1.rowIs w.heap.size 40 2 (fun c => (#[Value.slice none 0 0, .int .i64 0]).getD c undef)) := hR1
  have HS1 : Hid (w1.rowIs Bs 40 (n * 2) (scell A L C N arr)) := hS1
  have HO : Hid (Only (fun k => k = Bn ∨ k = Bm ∨ (true = true ∧ k = Bs)) w w1) := hO
  have HA : Hid (0 < len - 1 → ao = some ⟨Bm, (if i = 0 then p + 1 else p) * 3, none⟩ ∧ (if i = 0 then p + 1 else p) + cap' = n ∧ len - 1 ≤ cap') := hao'
  clear hao' hM1 hO1 hz1 hN1 hR1 hS1 hO
  go_wp2_with fail
  refine (without35_pos Bs n p len sc i (scell A L C N arr) _ hn hpc2 hlc2 hi hil ((HS1.out.setOther (a := ⟨Bn, 3, none⟩) (fun e => hns e.symm) _).alloc _) (fun c _ => scell_one A L C N arr c)).mono ?_
  rintro e w3 ⟨so, sc', rfl, hso', hS3, hO3, hz3⟩
  have hN2 := (HN1.out.set 3 (.slice ao (len - 1) cap')).congr (fun c hc => nodeF_set3 _ _ _ c hc)
  have hM3 := hO3.row ((HM1.out.setOther (a := ⟨Bn, 3, none⟩) (fun e => hnm e.symm) (.slice ao (len - 1) cap')).alloc (.cells #[.slice (A (arr (p + i))) (L (arr (p + i))) (C (arr (p + i))), .int .i64 (N (arr (p + i)))] 40)) hms
  have hN3 := hO3.row (hN2.alloc (.cells #[.slice (A (arr (p + i))) (L (arr (p + i))) (C (arr (p + i))), .int .i64 (N (arr (p + i)))] 40)) hns
  have hR3 := hO3.row ((HR1.out.setOther (a := ⟨Bn, 3, none⟩) (Ne.symm hne) (.slice ao (len - 1) cap')).alloc (.cells #[.slice (A (arr (p + i))) (L (arr (p + i))) (C (arr (p + i))), .int .i64 (N (arr (p + i)))] 40)) (fun e => by omega)
  have hO4 : Only (fun k => k = Bn ∨ k = Bm ∨ (true = true ∧ k = Bs)) w w3 := (((HO.out.mono (fun k hk => by simpa using hk)).setCell (x := ⟨Bn, 3, none⟩) (.inl rfl) _).alloc _).trans (hO3.mono (fun k hk => .inr (.inr ⟨by simp, hk⟩)))
  have t3 := hN3.cell (i := 4) (by omega)
  have fN3 := hN3.frozen
  have fR3 := hR3.frozen
  have q0 : w3.cell? ⟨w.heap.size, 0, none⟩ = some (.slice none 0 0) := hR3.cell (i := 0) (by omega)
  have q1 : w3.cell? ⟨w.heap.size, 1, none⟩ = some (.int .i64 0) := hR3.cell (i := 1) (by omega)
  have ez : (w1.setCell ⟨Bn, 3, none⟩ (.slice ao (len - 1) cap')).heap.size = w.heap.size + 2 := by rw [← hz]; simp [World.setCell]
  have a0 : w3.cell? ⟨w.heap.size + 2, 0, none⟩ = some (.slice (A (arr (p + i))) (L (arr (p + i))) (C (arr (p + i)))) := (hO3.cell (x := ⟨w.heap.size + 2, 0, none⟩) (by simp [hz]) (fun e => by simp at e; omega)).trans (cell_new2 ez).1
  have a1 : w3.cell? ⟨w.heap.size + 2, 1, none⟩ = some (.int .i64 (N (arr (p + i)))) := (hO3.cell (x := ⟨w.heap.size + 2, 1, none⟩) (by simp [hz]) (fun e => by simp at e; omega)).trans (cell_new2 ez).2
  have hne3 : Bn ≠ w.heap.size + 2 := by omega
  have hne4 : w.heap.size ≠ w.heap.size + 2 := by omega
  have k0 := hO3.cell (x := ⟨w.heap.size + 1, 0, none⟩) (by simp [hz]) (fun e => by simp at e; omega)
  have k1 := hO3.cell (x := ⟨w.heap.size + 1, 1, none⟩) (by simp [hz]) (fun e => by simp at e; omega)
  have k2 := hO3.cell (x := ⟨w.heap.size + 1, 2, none⟩) (by simp [hz]) (fun e => by simp at e; omega)
  have HF : Hid (RecPost w Bn Bm Bs n true F T Q A L C N p len arr i (.returned (.tuple #[.pointer (some ⟨w.heap.size + 1, 0, none⟩), .agg #[.slice (A (arr (p + i))) (L (arr (p + i))) (C (arr (p + i))), .int .i64 (N (arr (p + i)))]]))
      (((((w3.setCell ⟨Bn, 4, none⟩ (.slice so (len - 1) sc')).setCell ⟨w.heap.size, 0, none⟩ (.slice (A (arr (p + i))) (L (arr (p + i))) (C (arr (p + i))))).setCell ⟨w.heap.size, 1, none⟩ (.int .i64 (N (arr (p + i)))))).drew)) := by
    have hM5 := (((hM3.setOther (a := ⟨Bn, 4, none⟩) (fun e => hnm e.symm) (.slice so (len - 1) sc')).setOther (a := ⟨w.heap.size, 0, none⟩) (Nat.ne_of_lt hlM) (.slice (A (arr (p + i))) (L (arr (p + i))) (C (arr (p + i))))).setOther (a := ⟨w.heap.size, 1, none⟩) (Nat.ne_of_lt hlM) (.int .i64 (N (arr (p + i))))).drew
    have hS5 := ((((hS3.congr (fun c _ => scell_shift A L C N arr p i len c)).setOther (a := ⟨Bn, 4, none⟩) (fun e => hns e.symm) (.slice so (len - 1) sc')).setOther (a := ⟨w.heap.size, 0, none⟩) (Nat.ne_of_lt hlS) (.slice (A (arr (p + i))) (L (arr (p + i))) (C (arr (p + i))))).setOther (a := ⟨w.heap.size, 1, none⟩) (Nat.ne_of_lt hlS) (.int .i64 (N (arr (p + i))))).drew
    have hN5 := ((((hN3.set 4 (.slice so (len - 1) sc')).congr (fun c hc => nodeF_set4 _ _ _ c hc)).setOther (a := ⟨w.heap.size, 0, none⟩) (Nat.ne_of_lt hlN) (.slice (A (arr (p + i))) (L (arr (p + i))) (C (arr (p + i))))).setOther (a := ⟨w.heap.size, 1, none⟩) (Nat.ne_of_lt hlN) (.int .i64 (N (arr (p + i))))).drew
    refine ⟨w.heap.size + 1, 0, _, rfl, ?_, ?_, ?_, fun h => absurd h (by omega), fun _ => Nat.le_succ _, fun _ => rfl, fun h => (by cases h), ?_, ?_⟩
    · exact far3 (k0.trans (far1 g0 (by omega))) (by omega) (by omega)
    · exact far3 (k1.trans (far1 g1 (by omega))) (by omega) (by omega)
    · exact far3 (k2.trans (far1 g2 (by omega))) (by omega) (by omega)
    · exact ⟨_, _, hN5, ⟨ao, cap', rfl, HA.out⟩, fun _ => hM5, fun _ => ⟨⟨so, sc', rfl, hso'⟩, fun _ => hS5⟩, fun h => (by cases h)⟩
    · exact ((((hO4.setCell (x := ⟨Bn, 4, none⟩) (.inl rfl) _).setNew (x := ⟨w.heap.size, 0, none⟩) (Nat.le_refl _) _).setNew (x := ⟨w.heap.size, 1, none⟩) (Nat.le_refl _) _)).drew
  clear hso' hS3 hO3 hz3 hN2 hM3 hN3 hR3 hO4 ez k0 k1 k2
  go_wp2
  go_region
  all_goals go_wp2
  exact bodyPost_ret (v := .tuple #[.pointer (some ⟨w.heap.size + 1, 0, none⟩), .agg #[.slice (A (arr (p + i))) (L (arr (p + i))) (C (arr (p + i))), .int .i64 (N (arr (p + i)))]]) (by simp [results, Try.results27, go_sem, q0, q1, hne]) rfl HF.out

end Go.Proofs.Qxb6608660a

import Derived.Test.Qxb6608660aFmtW8
namespace Go.Proofs.Qxb6608660aFmt
open Go.RowKit
set_option linter.unusedSimpArgs false
set_option linter.unusedVariables false

theorem Only.row {p : Nat → Prop} {w w' : World} {b : Nat} {t : TypeId} {n : Nat} {f : Nat → Value} (h : Only p w w') (hr : w.rowIs b t n f) (hp : ¬ p b) : w'.rowIs b t n f := hr.of_block (h.block b hr.lt hp)

def nodeF (nm : ByteArray) (ix : Int) (iv sv : Value) (c : Nat) : Value := (nodeCells nm ix iv sv).getD c undef

theorem nodeF_set3 (nm : ByteArray) (ix : Int) (iv sv v : Value) (c : Nat) (hc : c < 8) : (if c = 3 then v else nodeF nm ix iv sv c) = nodeF nm ix v sv c := by
  unfold nodeF nodeCells
  match c, hc with
  | 0, _ => rfl
  | 1, _ => rfl
  | 2, _ => rfl
  | 3, _ => rfl
  | 4, _ => rfl
  | 5, _ => rfl
  | 6, _ => rfl
  | 7, _ => rfl
theorem nodeF_set4 (nm : ByteArray) (ix : Int) (iv sv v : Value) (c : Nat) (hc : c < 8) : (if c = 4 then v else nodeF nm ix iv sv c) = nodeF nm ix iv v c := by
  unfold nodeF nodeCells
  match c, hc with
  | 0, _ => rfl
  | 1, _ => rfl
  | 2, _ => rfl
  | 3, _ => rfl
  | 4, _ => rfl
  | 5, _ => rfl
  | 6, _ => rfl
  | 7, _ => rfl

/-- The zero stamp's row, as a new variable. -/
theorem rowIs_stamp0 (w : World) : (w.alloc (.cells #[.slice none 0 0, .int .i64 0] 52)).rowIs w.heap.size 52 2 (fun c => (#[Value.slice none 0 0, .int .i64 0]).getD c undef) :=
  World.rowIs_alloc w _ 52 _ (fun i hi => by
    match i, hi with
    | 0, _ => rfl
    | 1, _ => rfl)

theorem far0 {w : World} {b o B k : Nat} {u v : Value} (hb : b ≠ B) (hw : w.cell? ⟨b, o, none⟩ = some v) : (w.setCell ⟨B, k, none⟩ u).cell? ⟨b, o, none⟩ = some v := by
  rw [World.cell?_setCell_other _ _ _ _ (fun e => by have := congrArg Addr.block e; simp at this; omega)]; exact hw
theorem farA {w : World} {a : Addr} {v : Value} {O : Obj} (h : w.cell? a = some v) : (w.alloc O).cell? a = some v := (World.cell?_alloc_lt _ _ _ (World.block_lt_of_cell? _ _ h)).trans h
theorem far1 {w1 : World} {b o Bn k : Nat} {v v3 : Value} {O : Obj} (h : w1.cell? ⟨b, o, none⟩ = some v) (h1 : b ≠ Bn) : ((w1.setCell ⟨Bn, k, none⟩ v3).alloc O).cell? ⟨b, o, none⟩ = some v := farA (far0 h1 h)
theorem far3 {w1 : World} {b o Bn H k : Nat} {v v3 s0 s1 : Value} (h : w1.cell? ⟨b, o, none⟩ = some v) (h1 : b ≠ Bn) (h2 : b ≠ H) :
    (((w1.setCell ⟨Bn, k, none⟩ v3).setCell ⟨H, 0, none⟩ s0).setCell ⟨H, 1, none⟩ s1).drew.cell? ⟨b, o, none⟩ = some v := far0 (v := v) h2 (far0 h2 (far0 h1 h))
theorem far4 {w1 : World} {b o Bn H : Nat} {v v3 s0 s1 : Value} {O : Obj} (h : w1.cell? ⟨b, o, none⟩ = some v) (h1 : b ≠ Bn) (h2 : b ≠ H) :
    ((((w1.setCell ⟨Bn, 3, none⟩ v3).setCell ⟨H, 0, none⟩ s0).setCell ⟨H, 1, none⟩ s1).alloc O).drew.cell? ⟨b, o, none⟩ = some v := farA (far0 h2 (far0 h2 (far0 h1 h)))
/-- The two cells of a block that is new. -/
theorem cell_new2 {w : World} {H : Nat} {u v : Value} {t : TypeId} (h : w.heap.size = H) : (w.alloc (.cells #[u, v] t)).cell? ⟨H, 0, none⟩ = some u ∧ (w.alloc (.cells #[u, v] t)).cell? ⟨H, 1, none⟩ = some v := by
  subst h; simp

/-- The node whose LAST message is to be taken: n messages lie ahead of it. -/
structure LastIn (w : World) (Bn Bm Bs : Nat) (tr : Bool) (nm : ByteArray) (ix : Int) (n cM cS : Nat) (f g : Nat → Value) (sv : Value) : Prop where
  node : w.rowIs Bn 103 8 (nodeF nm ix (.slice (some ⟨Bm, 0, none⟩) (n + 1) cM) sv)
  msgs : w.rowIs Bm 57 (cM * 3) f
  room : n + 1 ≤ cM
  most : cM ≤ maxLen
  traced : tr = true → sv = .slice (some ⟨Bs, 0, none⟩) (n + 1) cS ∧ w.rowIs Bs 52 (cS * 2) g ∧ n + 1 ≤ cS ∧ cS ≤ maxLen
  plain : tr = false → ∃ sa sc, sv = .slice sa 0 sc

def LastPost (w : World) (Bn Bm Bs : Nat) (tr : Bool) (nm : ByteArray) (ix : Int) (n cM cS : Nat) (f g : Nat → Value) (a b : ByteArray) (q : Int) (ca : Option Addr) (cl cc : Nat) (nu : Int) (e : Ending) (w' : World) : Prop :=
  ∃ mb mo sg ao cap' sv', e = .returned (.tuple #[.pointer (some ⟨mb, mo, none⟩), sg]) ∧
    w'.cell? ⟨mb, mo, none⟩ = some (.string a) ∧ w'.cell? ⟨mb, mo + 1, none⟩ = some (.string b) ∧ w'.cell? ⟨mb, mo + 2, none⟩ = some (.iface 3 (.int .i64 q)) ∧
    (tr = true → sg = .agg #[.slice ca cl cc, .int .i64 nu]) ∧ (tr = false → sg = .agg #[.slice none 0 0, .int .i64 0]) ∧
    w'.rowIs Bn 103 8 (nodeF nm ix (.slice ao n cap') sv') ∧ (0 < n → ao = some ⟨Bm, 0, none⟩) ∧ w'.rowIs Bm 57 (cM * 3) f ∧
    (tr = true → ∃ so sc', sv' = .slice so n sc' ∧ (0 < n → so = some ⟨Bs, 0, none⟩) ∧ w'.rowIs Bs 52 (cS * 2) g) ∧ (tr = false → ∃ sa sc, sv' = .slice sa 0 sc) ∧
    Only (fun k => k = Bn ∨ k = Bm ∨ (tr = true ∧ k = Bs)) w w'

theorem wo_none (f : Nat → Value) (S i c : Nat) : (if 0 < i ∧ (0 + i) * S ≤ c ∧ c < (0 + (i + 1) - 1) * S then f (c + S) else f c) = f c := by
  rw [if_neg]
  intro ⟨_, h1, h2⟩
  rw [show 0 + (i + 1) - 1 = 0 + i by omega] at h2
  omega

set_option maxRecDepth 100000 in
set_option maxHeartbeats 1000000 in
theorem last_zero_plain (w : World) (Bn Bm Bs : Nat) (nm : ByteArray) (ix : Int) (cM cS : Nat) (f g : Nat → Value) (sv : Value) (a b : ByteArray) (q : Int) (ca : Option Addr) (cl cc : Nat) (nu : Int)
    (hnm : Bn ≠ Bm) (h : LastIn w Bn Bm Bs false nm ix 0 cM cS f g sv)
    (f0 : f (0 * 3) = .string a) (f1 : f (0 * 3 + 1) = .string b) (f2 : f (0 * 3 + 2) = .iface 3 (.int .i64 q)) :
    Calls Tryf.prog 30 #[.pointer (some ⟨Bn, 0, none⟩), .int .i64 0] w (LastPost w Bn Bm Bs false nm ix 0 cM cS f g a b q ca cl cc nu) := by
  obtain ⟨hN, hM, hroom, hmost, hT, hU⟩ := h
  obtain ⟨sa, sc, rfl⟩ := hU rfl
  have hcM : (cM : Int) ≤ 9223372036854775807 := by have := hmost; unfold maxLen at this; omega
  have c3 : w.cell? ⟨Bn, 3, none⟩ = some (.slice (some ⟨Bm, 0, none⟩) (0 + 1) cM) := hN.cell (i := 3) (by omega)
  have hlN := hN.lt
  have hlM := hM.lt
  have F0 : Hid (f (0 * 3) = .string a ∧ f (0 * 3 + 1) = .string b ∧ f (0 * 3 + 2) = .iface 3 (.int .i64 q)) := ⟨f0, f1, f2⟩
  have HN : Hid (w.rowIs Bn 103 8 (nodeF nm ix (.slice (some ⟨Bm, 0, none⟩) (0 + 1) cM) (.slice sa 0 sc))) := hN
  have HM : Hid (w.rowIs Bm 57 (cM * 3) f) := hM
  clear hN hM hT hU f0 f1 f2
  go_enter Tryf.func30, Tryf.ntmps30
  go_wp2_with fail
  refine (without34_zero Bm cM 0 (0 + 1) cM f _ (by omega) (by omega) hroom (by omega) (HM.out.alloc _)).mono ?_
  rintro e w1 ⟨ao, cap', rfl, hao', hM1, hO1, hz1⟩
  have hM1 := hM1.congr (fun c _ => wo_none f 3 0 c)
  have hN1 := hO1.row (HN.out.alloc _) hnm
  have hR1 := hO1.row (rowIs_stamp0 w) (fun e => by omega)
  have d3 := hN1.cell (i := 3) (by omega)
  have d4 : w1.cell? ⟨Bn, 4, none⟩ = some (.slice sa 0 sc) := hN1.cell (i := 4) (by omega)
  have r0 : w1.cell? ⟨w.heap.size, 0, none⟩ = some (.slice none 0 0) := hR1.cell (i := 0) (by omega)
  have r1 : w1.cell? ⟨w.heap.size, 1, none⟩ = some (.int .i64 0) := hR1.cell (i := 1) (by omega)
  have fN := hN1.frozen
  have fR := hR1.frozen
  have hz : w1.heap.size = w.heap.size + 1 := by simpa using hz1
  have hne : Bn ≠ w.heap.size := by omega
  have hb1 : Bn < w.heap.size + 1 := by omega
  have hb2 : w.heap.size < w.heap.size + 1 := by omega
  have hO : Only (fun k => k = Bn ∨ k = Bm ∨ (false = true ∧ k = Bs)) w w1 := ((Only.refl _ w).alloc _).trans (hO1.mono (fun k hk => .inr (.inl hk)))
  have hao2 : 0 < 0 → ao = some ⟨Bm, 0, none⟩ := fun h => absurd h (by omega)
  have HF : Hid (LastPost w Bn Bm Bs false nm ix 0 cM cS f g a b q ca cl cc nu (.returned (.tuple #[.pointer (some ⟨Bm, 0, none⟩), .agg #[.slice none 0 0, .int .i64 0]]))
      (((((w1.setCell ⟨Bn, 3, none⟩ (.slice ao (0) cap')).setCell ⟨w.heap.size, 0, none⟩ (.slice none 0 0)).setCell ⟨w.heap.size, 1, none⟩ (.int .i64 0)).alloc (.cells #[.slice none 0 0, .int .i64 0] 52)).drew)) := by
    have hM2 := (((hM1.setOther (a := ⟨Bn, 3, none⟩) (fun e => hnm e.symm) (.slice ao 0 cap')).setOther (a := ⟨w.heap.size, 0, none⟩) (Nat.ne_of_lt hlM) (.slice none 0 0)).setOther (a := ⟨w.heap.size, 1, none⟩) (Nat.ne_of_lt hlM) (.int .i64 0)).alloc (.cells #[.slice none 0 0, .int .i64 0] 52)
    have hN2 := ((((hN1.set 3 (.slice ao 0 cap')).congr (fun c hc => nodeF_set3 _ _ _ _ _ c hc)).setOther (a := ⟨w.heap.size, 0, none⟩) (Nat.ne_of_lt hlN) (.slice none 0 0)).setOther (a := ⟨w.heap.size, 1, none⟩) (Nat.ne_of_lt hlN) (.int .i64 0)).alloc (.cells #[.slice none 0 0, .int .i64 0] 52)
    refine ⟨Bm, 0, _, ao, cap', _, rfl, ?_, ?_, ?_, fun h => (by cases h), fun _ => rfl, hN2.drew, hao2, hM2.drew, fun h => (by cases h), fun _ => ⟨sa, sc, rfl⟩, ?_⟩
    · exact ((hM2.cell (i := 0) (by omega)).trans (by have := F0.out.1; simpa using this))
    · exact ((hM2.cell (i := 1) (by omega)).trans (by have := F0.out.2.1; simpa using this))
    · exact ((hM2.cell (i := 2) (by omega)).trans (by have := F0.out.2.2; simpa using this))
    · exact ((((hO.setCell (x := ⟨Bn, 3, none⟩) (.inl rfl) _).setNew (x := ⟨w.heap.size, 0, none⟩) (Nat.le_refl _) _).setNew (x := ⟨w.heap.size, 1, none⟩) (Nat.le_refl _) _).alloc _).drew
  clear hao' hM1 hO1 hz1 hN1 hR1 hO hao2
  go_wp2
  go_region
  all_goals go_wp2
  exact bodyPost_ret (v := .tuple #[.pointer (some ⟨Bm, 0, none⟩), .agg #[.slice none 0 0, .int .i64 0]]) (by simp [results, Tryf.results30, go_sem, hz, r0, r1, hne]) rfl HF.out

set_option maxRecDepth 100000 in
set_option maxHeartbeats 1000000 in
theorem last_pos_plain (w : World) (Bn Bm Bs : Nat) (nm : ByteArray) (ix : Int) (n : Nat) (cM cS : Nat) (f g : Nat → Value) (sv : Value) (a b : ByteArray) (q : Int) (ca : Option Addr) (cl cc : Nat) (nu : Int)
    (hnm : Bn ≠ Bm) (hn : n ≤ 1048575) (hn0 : 0 < n) (h : LastIn w Bn Bm Bs false nm ix n cM cS f g sv)
    (f0 : f (n * 3) = .string a) (f1 : f (n * 3 + 1) = .string b) (f2 : f (n * 3 + 2) = .iface 3 (.int .i64 q)) :
    Calls Tryf.prog 30 #[.pointer (some ⟨Bn, 0, none⟩), .int .i64 n] w (LastPost w Bn Bm Bs false nm ix n cM cS f g a b q ca cl cc nu) := by
  obtain ⟨hN, hM, hroom, hmost, hT, hU⟩ := h
  obtain ⟨sa, sc, rfl⟩ := hU rfl
  have hcM : (cM : Int) ≤ 9223372036854775807 := by have := hmost; unfold maxLen at this; omega
  have c3 : w.cell? ⟨Bn, 3, none⟩ = some (.slice (some ⟨Bm, 0, none⟩) (n + 1) cM) := hN.cell (i := 3) (by omega)
  have m0 : w.cell? ⟨Bm, n * 3, none⟩ = some (.string a) := (hM.cell (by omega)).trans (by rw [f0])
  have m1 : w.cell? ⟨Bm, n * 3 + 1, none⟩ = some (.string b) := (hM.cell (by omega)).trans (by rw [f1])
  have m2 : w.cell? ⟨Bm, n * 3 + 2, none⟩ = some (.iface 3 (.int .i64 q)) := (hM.cell (by omega)).trans (by rw [f2])
  have hzi : ((n : Int) == 0) = false := by rw [beq_eq_false_iff_ne]; omega
  have hn1 : (n : Int) < ((n + 1 : Nat) : Int) := by omega
  have hlN := hN.lt
  have hlM := hM.lt
  have F0 : Hid (f (n * 3) = .string a ∧ f (n * 3 + 1) = .string b ∧ f (n * 3 + 2) = .iface 3 (.int .i64 q)) := ⟨f0, f1, f2⟩
  have HN : Hid (w.rowIs Bn 103 8 (nodeF nm ix (.slice (some ⟨Bm, 0, none⟩) (n + 1) cM) (.slice sa 0 sc))) := hN
  have HM : Hid (w.rowIs Bm 57 (cM * 3) f) := hM
  clear hN hM hT hU f0 f1 f2
  go_enter Tryf.func30, Tryf.ntmps30
  go_wp2_with fail
  refine (without34_pos Bm cM 0 (n + 1) cM n f _ (by omega) (by omega) hmost hroom hn0 (by omega) ((HM.out.alloc _).alloc _) (fun c h1 h2 => absurd h2 (by omega))).mono ?_
  rintro e w1 ⟨ao, cap', rfl, hao', hM1, hO1, hz1⟩
  have hM1 := hM1.congr (fun c _ => wo_none f 3 n c)
  have hN1 := hO1.row ((HN.out.alloc _).alloc _) hnm
  have hR1 := hO1.row ((rowIs_stamp0 w).alloc _) (fun e => by omega)
  have g0 : w1.cell? ⟨w.heap.size + 1, 0, none⟩ = some (.string a) := (hO1.cell (x := ⟨w.heap.size + 1, 0, none⟩) (by simp) (fun e => by simp at e; omega)).trans (by simp)
  have g1 : w1.cell? ⟨w.heap.size + 1, 1, none⟩ = some (.string b) := (hO1.cell (x := ⟨w.heap.size + 1, 1, none⟩) (by simp) (fun e => by simp at e; omega)).trans (by simp)
  have g2 : w1.cell? ⟨w.heap.size + 1, 2, none⟩ = some (.iface 3 (.int .i64 q)) := (hO1.cell (x := ⟨w.heap.size + 1, 2, none⟩) (by simp) (fun e => by simp at e; omega)).trans (by simp)
  have d3 := hN1.cell (i := 3) (by omega)
  have d4 : w1.cell? ⟨Bn, 4, none⟩ = some (.slice sa 0 sc) := hN1.cell (i := 4) (by omega)
  have r0 : w1.cell? ⟨w.heap.size, 0, none⟩ = some (.slice none 0 0) := hR1.cell (i := 0) (by omega)
  have r1 : w1.cell? ⟨w.heap.size, 1, none⟩ = some (.int .i64 0) := hR1.cell (i := 1) (by omega)
  have fN := hN1.frozen
  have fR := hR1.frozen
  have hz : w1.heap.size = w.heap.size + 2 := by simpa using hz1
  have hne : Bn ≠ w.heap.size := by omega
  have hb1 : Bn < w.heap.size + 2 := by omega
  have hb2 : w.heap.size < w.heap.size + 2 := by omega
  have hO : Only (fun k => k = Bn ∨ k = Bm ∨ (false = true ∧ k = Bs)) w w1 := (((Only.refl _ w).alloc _).alloc _).trans (hO1.mono (fun k hk => .inr (.inl hk)))
  have hao2 : 0 < n → ao = some ⟨Bm, 0, none⟩ := fun h => by have := (hao' (by omega)).1; rw [if_neg (by omega)] at this; simpa using this
  have HF : Hid (LastPost w Bn Bm Bs false nm ix n cM cS f g a b q ca cl cc nu (.returned (.tuple #[.pointer (some ⟨w.heap.size + 1, 0, none⟩), .agg #[.slice none 0 0, .int .i64 0]]))
      (((((w1.setCell ⟨Bn, 3, none⟩ (.slice ao (n) cap')).setCell ⟨w.heap.size, 0, none⟩ (.slice none 0 0)).setCell ⟨w.heap.size, 1, none⟩ (.int .i64 0)).alloc (.cells #[.slice none 0 0, .int .i64 0] 52)).drew)) := by
    have hM2 := (((hM1.setOther (a := ⟨Bn, 3, none⟩) (fun e => hnm e.symm) (.slice ao n cap')).setOther (a := ⟨w.heap.size, 0, none⟩) (Nat.ne_of_lt hlM) (.slice none 0 0)).setOther (a := ⟨w.heap.size, 1, none⟩) (Nat.ne_of_lt hlM) (.int .i64 0)).alloc (.cells #[.slice none 0 0, .int .i64 0] 52)
    have hN2 := ((((hN1.set 3 (.slice ao n cap')).congr (fun c hc => nodeF_set3 _ _ _ _ _ c hc)).setOther (a := ⟨w.heap.size, 0, none⟩) (Nat.ne_of_lt hlN) (.slice none 0 0)).setOther (a := ⟨w.heap.size, 1, none⟩) (Nat.ne_of_lt hlN) (.int .i64 0)).alloc (.cells #[.slice none 0 0, .int .i64 0] 52)
    refine ⟨w.heap.size + 1, 0, _, ao, cap', _, rfl, ?_, ?_, ?_, fun h => (by cases h), fun _ => rfl, hN2.drew, hao2, hM2.drew, fun h => (by cases h), fun _ => ⟨sa, sc, rfl⟩, ?_⟩
    · exact far4 g0 (by omega) (by omega)
    · exact far4 g1 (by omega) (by omega)
    · exact far4 g2 (by omega) (by omega)
    · exact ((((hO.setCell (x := ⟨Bn, 3, none⟩) (.inl rfl) _).setNew (x := ⟨w.heap.size, 0, none⟩) (Nat.le_refl _) _).setNew (x := ⟨w.heap.size, 1, none⟩) (Nat.le_refl _) _).alloc _).drew
  clear hao' hM1 hO1 hz1 hN1 hR1 hO hao2
  go_wp2
  go_region
  all_goals go_wp2
  exact bodyPost_ret (v := .tuple #[.pointer (some ⟨w.heap.size + 1, 0, none⟩), .agg #[.slice none 0 0, .int .i64 0]]) (by simp [results, Tryf.results30, go_sem, hz, r0, r1, hne]) rfl HF.out

set_option maxRecDepth 100000 in
set_option maxHeartbeats 1000000 in
theorem last_zero_traced (w : World) (Bn Bm Bs : Nat) (nm : ByteArray) (ix : Int) (cM cS : Nat) (f g : Nat → Value) (sv : Value) (a b : ByteArray) (q : Int) (ca : Option Addr) (cl cc : Nat) (nu : Int)
    (hnm : Bn ≠ Bm) (hns : Bn ≠ Bs) (hms : Bm ≠ Bs) (h : LastIn w Bn Bm Bs true nm ix 0 cM cS f g sv)
    (f0 : f (0 * 3) = .string a) (f1 : f (0 * 3 + 1) = .string b) (f2 : f (0 * 3 + 2) = .iface 3 (.int .i64 q)) (g0 : g (0 * 2) = .slice ca cl cc) (g1 : g (0 * 2 + 1) = .int .i64 nu) :
    Calls Tryf.prog 30 #[.pointer (some ⟨Bn, 0, none⟩), .int .i64 0] w (LastPost w Bn Bm Bs true nm ix 0 cM cS f g a b q ca cl cc nu) := by
  obtain ⟨hN, hM, hroom, hmost, hT, hU⟩ := h
  obtain ⟨rfl, hS, hroom2, hmost2⟩ := hT rfl
  have hcM : (cM : Int) ≤ 9223372036854775807 := by have := hmost; unfold maxLen at this; omega
  have c3 : w.cell? ⟨Bn, 3, none⟩ = some (.slice (some ⟨Bm, 0, none⟩) (0 + 1) cM) := hN.cell (i := 3) (by omega)
  have hlN := hN.lt
  have hlM := hM.lt
  have F0 : Hid (f (0 * 3) = .string a ∧ f (0 * 3 + 1) = .string b ∧ f (0 * 3 + 2) = .iface 3 (.int .i64 q)) := ⟨f0, f1, f2⟩
  have hlS := hS.lt
  have HS : Hid (w.rowIs Bs 52 (cS * 2) g) := hS
  have G0 : Hid (g (0 * 2) = .slice ca cl cc ∧ g (0 * 2 + 1) = .int .i64 nu) := ⟨g0, g1⟩
  have HN : Hid (w.rowIs Bn 103 8 (nodeF nm ix (.slice (some ⟨Bm, 0, none⟩) (0 + 1) cM) (.slice (some ⟨Bs, 0, none⟩) (0 + 1) cS))) := hN
  have HM : Hid (w.rowIs Bm 57 (cM * 3) f) := hM
  clear hN hM hT hU f0 f1 f2 hS g0 g1
  go_enter Tryf.func30, Tryf.ntmps30
  go_wp2_with fail
  refine (without34_zero Bm cM 0 (0 + 1) cM f _ (by omega) (by omega) hroom (by omega) (HM.out.alloc _)).mono ?_
  rintro e w1 ⟨ao, cap', rfl, hao', hM1, hO1, hz1⟩
  have hM1 := hM1.congr (fun c _ => wo_none f 3 0 c)
  have hN1 := hO1.row (HN.out.alloc _) hnm
  have hR1 := hO1.row (rowIs_stamp0 w) (fun e => by omega)
  have hS1 := hO1.row (HS.out.alloc _) (fun e => hms e.symm)
  have d3 := hN1.cell (i := 3) (by omega)
  have d4 : w1.cell? ⟨Bn, 4, none⟩ = some (.slice (some ⟨Bs, 0, none⟩) (0 + 1) cS) := hN1.cell (i := 4) (by omega)
  have r0 : w1.cell? ⟨w.heap.size, 0, none⟩ = some (.slice none 0 0) := hR1.cell (i := 0) (by omega)
  have r1 : w1.cell? ⟨w.heap.size, 1, none⟩ = some (.int .i64 0) := hR1.cell (i := 1) (by omega)
  have fN := hN1.frozen
  have fR := hR1.frozen
  have hz : w1.heap.size = w.heap.size + 1 := by simpa using hz1
  have hne : Bn ≠ w.heap.size := by omega
  have hb1 : Bn < w.heap.size + 1 := by omega
  have hb2 : w.heap.size < w.heap.size + 1 := by omega
  have hO : Only (fun k => k = Bn ∨ k = Bm ∨ (true = true ∧ k = Bs)) w w1 := ((Only.refl _ w).alloc _).trans (hO1.mono (fun k hk => .inr (.inl hk)))
  have hao2 : 0 < 0 → ao = some ⟨Bm, 0, none⟩ := fun h => absurd h (by omega)
  have s0 : w1.cell? ⟨Bs, 0, none⟩ = some (.slice ca cl cc) := (hS1.cell (i := 0) (by omega)).trans (by have := G0.out.1; simpa using this)
  have s1 : w1.cell? ⟨Bs, 1, none⟩ = some (.int .i64 nu) := (hS1.cell (i := 1) (by omega)).trans (by have := G0.out.2; simpa using this)
  have hnS : Bn ≠ Bs := hns
  have hcS : (cS : Int) ≤ 9223372036854775807 := by have := hmost2; unfold maxLen at this; omega
  have hb3 : Bs < w.heap.size + 1 := by omega
  have HM1 : Hid (w1.rowIs Bm 57 (cM * 3) f) := hM1
  have HN1 : Hid (w1.rowIs Bn 103 8 (nodeF nm ix (.slice (some ⟨Bm, 0, none⟩) (0 + 1) cM) (.slice (some ⟨Bs, 0, none⟩) (0 + 1) cS))) := hN1
  have HR1 : Hid (w1.rowIs w.heap.size 52 2 (fun c => (#[Value.slice none 0 0, .int .i64 0]).getD c undef)) := hR1
  have HS1 : Hid (w1.rowIs Bs 52 (cS * 2) g) := hS1
  have HO : Hid (Only (fun k => k = Bn ∨ k = Bm ∨ (true = true ∧ k = Bs)) w w1) := hO
  have HA : Hid (0 < 0 → ao = some ⟨Bm, 0, none⟩) := hao2
  clear hao' hM1 hO1 hz1 hN1 hR1 hS1 hO hao2
  go_wp2_with fail
  refine (without35_zero Bs cS 0 (0 + 1) cS g _ (by omega) (by omega) hroom2 (by omega) ((HS1.out.setOther (a := ⟨Bn, 3, none⟩) (fun e => hns e.symm) _).alloc _)).mono ?_
  rintro e w3 ⟨so, sc', rfl, hso', hS3, hO3, hz3⟩
  have hS3 := hS3.congr (fun c _ => wo_none g 2 0 c)
  have hso2 : 0 < 0 → so = some ⟨Bs, 0, none⟩ := fun h => absurd h (by omega)
  have hN2 := (HN1.out.set 3 (.slice ao (0) cap')).congr (fun c hc => nodeF_set3 _ _ _ _ _ c hc)
  have hM3 := hO3.row ((HM1.out.setOther (a := ⟨Bn, 3, none⟩) (fun e => hnm e.symm) (.slice ao (0) cap')).alloc (.cells #[.slice ca cl cc, .int .i64 nu] 52)) hms
  have hN3 := hO3.row (hN2.alloc (.cells #[.slice ca cl cc, .int .i64 nu] 52)) hns
  have hR3 := hO3.row ((HR1.out.setOther (a := ⟨Bn, 3, none⟩) (Ne.symm hne) (.slice ao (0) cap')).alloc (.cells #[.slice ca cl cc, .int .i64 nu] 52)) (fun e => by omega)
  have hO4 : Only (fun k => k = Bn ∨ k = Bm ∨ (true = true ∧ k = Bs)) w w3 := (((HO.out.mono (fun k hk => by simpa using hk)).setCell (x := ⟨Bn, 3, none⟩) (.inl rfl) _).alloc _).trans (hO3.mono (fun k hk => .inr (.inr ⟨by simp, hk⟩)))
  have t3 := hN3.cell (i := 4) (by omega)
  have fN3 := hN3.frozen
  have fR3 := hR3.frozen
  have q0 : w3.cell? ⟨w.heap.size, 0, none⟩ = some (.slice none 0 0) := hR3.cell (i := 0) (by omega)
  have q1 : w3.cell? ⟨w.heap.size, 1, none⟩ = some (.int .i64 0) := hR3.cell (i := 1) (by omega)
  have ez : (w1.setCell ⟨Bn, 3, none⟩ (.slice ao (0) cap')).heap.size = w.heap.size + 1 := by rw [← hz]; simp [World.setCell]
  have a0 : w3.cell? ⟨w.heap.size + 1, 0, none⟩ = some (.slice ca cl cc) := (hO3.cell (x := ⟨w.heap.size + 1, 0, none⟩) (by simp [hz]) (fun e => by simp at e; omega)).trans (cell_new2 ez).1
  have a1 : w3.cell? ⟨w.heap.size + 1, 1, none⟩ = some (.int .i64 nu) := (hO3.cell (x := ⟨w.heap.size + 1, 1, none⟩) (by simp [hz]) (fun e => by simp at e; omega)).trans (cell_new2 ez).2
  have hne3 : Bn ≠ w.heap.size + 1 := by omega
  have hne4 : w.heap.size ≠ w.heap.size + 1 := by omega
  have HF : Hid (LastPost w Bn Bm Bs true nm ix 0 cM cS f g a b q ca cl cc nu (.returned (.tuple #[.pointer (some ⟨Bm, 0, none⟩), .agg #[.slice ca cl cc, .int .i64 nu]]))
      (((((w3.setCell ⟨Bn, 4, none⟩ (.slice so (0) sc')).setCell ⟨w.heap.size, 0, none⟩ (.slice ca cl cc)).setCell ⟨w.heap.size, 1, none⟩ (.int .i64 nu))).drew)) := by
    have hM5 := (((hM3.setOther (a := ⟨Bn, 4, none⟩) (fun e => hnm e.symm) (.slice so (0) sc')).setOther (a := ⟨w.heap.size, 0, none⟩) (Nat.ne_of_lt hlM) (.slice ca cl cc)).setOther (a := ⟨w.heap.size, 1, none⟩) (Nat.ne_of_lt hlM) (.int .i64 nu)).drew
    have hS5 := (((hS3.setOther (a := ⟨Bn, 4, none⟩) (fun e => hns e.symm) (.slice so (0) sc')).setOther (a := ⟨w.heap.size, 0, none⟩) (Nat.ne_of_lt hlS) (.slice ca cl cc)).setOther (a := ⟨w.heap.size, 1, none⟩) (Nat.ne_of_lt hlS) (.int .i64 nu)).drew
    have hN5 := ((((hN3.set 4 (.slice so (0) sc')).congr (fun c hc => nodeF_set4 _ _ _ _ _ c hc)).setOther (a := ⟨w.heap.size, 0, none⟩) (Nat.ne_of_lt hlN) (.slice ca cl cc)).setOther (a := ⟨w.heap.size, 1, none⟩) (Nat.ne_of_lt hlN) (.int .i64 nu)).drew
    refine ⟨Bm, 0, _, ao, cap', _, rfl, ?_, ?_, ?_, fun _ => rfl, fun h => (by cases h), hN5, HA.out, hM5, fun _ => ⟨so, sc', rfl, hso2, hS5⟩, fun h => (by cases h), ?_⟩
    · exact ((hM5.cell (i := 0) (by omega)).trans (by have := F0.out.1; simpa using this))
    · exact ((hM5.cell (i := 1) (by omega)).trans (by have := F0.out.2.1; simpa using this))
    · exact ((hM5.cell (i := 2) (by omega)).trans (by have := F0.out.2.2; simpa using this))
    · exact ((((hO4.setCell (x := ⟨Bn, 4, none⟩) (.inl rfl) _).setNew (x := ⟨w.heap.size, 0, none⟩) (Nat.le_refl _) _).setNew (x := ⟨w.heap.size, 1, none⟩) (Nat.le_refl _) _)).drew
  clear hso' hS3 hO3 hz3 hN2 hM3 hN3 hR3 hO4 ez hso2
  go_wp2
  go_region
  all_goals go_wp2
  exact bodyPost_ret (v := .tuple #[.pointer (some ⟨Bm, 0, none⟩), .agg #[.slice ca cl cc, .int .i64 nu]]) (by simp [results, Tryf.results30, go_sem, q0, q1, hne]) rfl HF.out

set_option maxRecDepth 100000 in
set_option maxHeartbeats 1000000 in
theorem last_pos_traced (w : World) (Bn Bm Bs : Nat) (nm : ByteArray) (ix : Int) (n : Nat) (cM cS : Nat) (f g : Nat → Value) (sv : Value) (a b : ByteArray) (q : Int) (ca : Option Addr) (cl cc : Nat) (nu : Int)
    (hnm : Bn ≠ Bm) (hn : n ≤ 1048575) (hn0 : 0 < n) (hns : Bn ≠ Bs) (hms : Bm ≠ Bs) (h : LastIn w Bn Bm Bs true nm ix n cM cS f g sv)
    (f0 : f (n * 3) = .string a) (f1 : f (n * 3 + 1) = .string b) (f2 : f (n * 3 + 2) = .iface 3 (.int .i64 q)) (g0 : g (n * 2) = .slice ca cl cc) (g1 : g (n * 2 + 1) = .int .i64 nu) :
    Calls Tryf.prog 30 #[.pointer (some ⟨Bn, 0, none⟩), .int .i64 n] w (LastPost w Bn Bm Bs true nm ix n cM cS f g a b q ca cl cc nu) := by
  obtain ⟨hN, hM, hroom, hmost, hT, hU⟩ := h
  obtain ⟨rfl, hS, hroom2, hmost2⟩ := hT rfl
  have hcM : (cM : Int) ≤ 9223372036854775807 := by have := hmost; unfold maxLen at this; omega
  have c3 : w.cell? ⟨Bn, 3, none⟩ = some (.slice (some ⟨Bm, 0, none⟩) (n + 1) cM) := hN.cell (i := 3) (by omega)
  have m0 : w.cell? ⟨Bm, n * 3, none⟩ = some (.string a) := (hM.cell (by omega)).trans (by rw [f0])
  have m1 : w.cell? ⟨Bm, n * 3 + 1, none⟩ = some (.string b) := (hM.cell (by omega)).trans (by rw [f1])
  have m2 : w.cell? ⟨Bm, n * 3 + 2, none⟩ = some (.iface 3 (.int .i64 q)) := (hM.cell (by omega)).trans (by rw [f2])
  have hzi : ((n : Int) == 0) = false := by rw [beq_eq_false_iff_ne]; omega
  have hn1 : (n : Int) < ((n + 1 : Nat) : Int) := by omega
  have hlN := hN.lt
  have hlM := hM.lt
  have F0 : Hid (f (n * 3) = .string a ∧ f (n * 3 + 1) = .string b ∧ f (n * 3 + 2) = .iface 3 (.int .i64 q)) := ⟨f0, f1, f2⟩
  have hlS := hS.lt
  have HS : Hid (w.rowIs Bs 52 (cS * 2) g) := hS
  have G0 : Hid (g (n * 2) = .slice ca cl cc ∧ g (n * 2 + 1) = .int .i64 nu) := ⟨g0, g1⟩
  have HN : Hid (w.rowIs Bn 103 8 (nodeF nm ix (.slice (some ⟨Bm, 0, none⟩) (n + 1) cM) (.slice (some ⟨Bs, 0, none⟩) (n + 1) cS))) := hN
  have HM : Hid (w.rowIs Bm 57 (cM * 3) f) := hM
  clear hN hM hT hU f0 f1 f2 hS g0 g1
  go_enter Tryf.func30, Tryf.ntmps30
  go_wp2_with fail
  refine (without34_pos Bm cM 0 (n + 1) cM n f _ (by omega) (by omega) hmost hroom hn0 (by omega) ((HM.out.alloc _).alloc _) (fun c h1 h2 => absurd h2 (by omega))).mono ?_
  rintro e w1 ⟨ao, cap', rfl, hao', hM1, hO1, hz1⟩
  have hM1 := hM1.congr (fun c _ => wo_none f 3 n c)
  have hN1 := hO1.row ((HN.out.alloc _).alloc _) hnm
  have hR1 := hO1.row ((rowIs_stamp0 w).alloc _) (fun e => by omega)
  have hS1 := hO1.row ((HS.out.alloc _).alloc _) (fun e => hms e.symm)
  have g0 : w1.cell? ⟨w.heap.size + 1, 0, none⟩ = some (.string a) := (hO1.cell (x := ⟨w.heap.size + 1, 0, none⟩) (by simp) (fun e => by simp at e; omega)).trans (by simp)
  have g1 : w1.cell? ⟨w.heap.size + 1, 1, none⟩ = some (.string b) := (hO1.cell (x := ⟨w.heap.size + 1, 1, none⟩) (by simp) (fun e => by simp at e; omega)).trans (by simp)
  have g2 : w1.cell? ⟨w.heap.size + 1, 2, none⟩ = some (.iface 3 (.int .i64 q)) := (hO1.cell (x := ⟨w.heap.size + 1, 2, none⟩) (by simp) (fun e => by simp at e; omega)).trans (by simp)
  have d3 := hN1.cell (i := 3) (by omega)
  have d4 : w1.cell? ⟨Bn, 4, none⟩ = some (.slice (some ⟨Bs, 0, none⟩) (n + 1) cS) := hN1.cell (i := 4) (by omega)
  have r0 : w1.cell? ⟨w.heap.size, 0, none⟩ = some (.slice none 0 0) := hR1.cell (i := 0) (by omega)
  have r1 : w1.cell? ⟨w.heap.size, 1, none⟩ = some (.int .i64 0) := hR1.cell (i := 1) (by omega)
  have fN := hN1.frozen
  have fR := hR1.frozen
  have hz : w1.heap.size = w.heap.size + 2 := by simpa using hz1
  have hne : Bn ≠ w.heap.size := by omega
  have hb1 : Bn < w.heap.size + 2 := by omega
  have hb2 : w.heap.size < w.heap.size + 2 := by omega
  have hO : Only (fun k => k = Bn ∨ k = Bm ∨ (true = true ∧ k = Bs)) w w1 := (((Only.refl _ w).alloc _).alloc _).trans (hO1.mono (fun k hk => .inr (.inl hk)))
  have hao2 : 0 < n → ao = some ⟨Bm, 0, none⟩ := fun h => by have := (hao' (by omega)).1; rw [if_neg (by omega)] at this; simpa using this
  have s0 : w1.cell? ⟨Bs, n * 2, none⟩ = some (.slice ca cl cc) := (hS1.cell (i := n * 2) (by omega)).trans (by have := G0.out.1; simpa using this)
  have s1 : w1.cell? ⟨Bs, n * 2 + 1, none⟩ = some (.int .i64 nu) := (hS1.cell (i := n * 2 + 1) (by omega)).trans (by have := G0.out.2; simpa using this)
  have hnS : Bn ≠ Bs := hns
  have hcS : (cS : Int) ≤ 9223372036854775807 := by have := hmost2; unfold maxLen at this; omega
  have hb3 : Bs < w.heap.size + 2 := by omega
  have HM1 : Hid (w1.rowIs Bm 57 (cM * 3) f) := hM1
  have HN1 : Hid (w1.rowIs Bn 103 8 (nodeF nm ix (.slice (some ⟨Bm, 0, none⟩) (n + 1) cM) (.slice (some ⟨Bs, 0, none⟩) (n + 1) cS))) := hN1
  have HR1 : Hid (w1.rowIs w.heap.size 52 2 (fun c => (#[Value.slice none 0 0, .int .i64 0]).getD c undef)) := hR1
  have HS1 : Hid (w1.rowIs Bs 52 (cS * 2) g) := hS1
  have HO : Hid (Only (fun k => k = Bn ∨ k = Bm ∨ (true = true ∧ k = Bs)) w w1) := hO
  have HA : Hid (0 < n → ao = some ⟨Bm, 0, none⟩) := hao2
  clear hao' hM1 hO1 hz1 hN1 hR1 hS1 hO hao2
  go_wp2_with fail
  refine (without35_pos Bs cS 0 (n + 1) cS n g _ (by omega) (by omega) hmost2 hroom2 hn0 (by omega) ((HS1.out.setOther (a := ⟨Bn, 3, none⟩) (fun e => hns e.symm) _).alloc _) (fun c h1 h2 => absurd h2 (by omega))).mono ?_
  rintro e w3 ⟨so, sc', rfl, hso', hS3, hO3, hz3⟩
  have hS3 := hS3.congr (fun c _ => wo_none g 2 n c)
  have hso2 : 0 < n → so = some ⟨Bs, 0, none⟩ := fun h => by have := (hso' (by omega)).1; rw [if_neg (by omega)] at this; simpa using this
  have hN2 := (HN1.out.set 3 (.slice ao (n) cap')).congr (fun c hc => nodeF_set3 _ _ _ _ _ c hc)
  have hM3 := hO3.row ((HM1.out.setOther (a := ⟨Bn, 3, none⟩) (fun e => hnm e.symm) (.slice ao (n) cap')).alloc (.cells #[.slice ca cl cc, .int .i64 nu] 52)) hms
  have hN3 := hO3.row (hN2.alloc (.cells #[.slice ca cl cc, .int .i64 nu] 52)) hns
  have hR3 := hO3.row ((HR1.out.setOther (a := ⟨Bn, 3, none⟩) (Ne.symm hne) (.slice ao (n) cap')).alloc (.cells #[.slice ca cl cc, .int .i64 nu] 52)) (fun e => by omega)
  have hO4 : Only (fun k => k = Bn ∨ k = Bm ∨ (true = true ∧ k = Bs)) w w3 := (((HO.out.mono (fun k hk => by simpa using hk)).setCell (x := ⟨Bn, 3, none⟩) (.inl rfl) _).alloc _).trans (hO3.mono (fun k hk => .inr (.inr ⟨by simp, hk⟩)))
  have t3 := hN3.cell (i := 4) (by omega)
  have fN3 := hN3.frozen
  have fR3 := hR3.frozen
  have q0 : w3.cell? ⟨w.heap.size, 0, none⟩ = some (.slice none 0 0) := hR3.cell (i := 0) (by omega)
  have q1 : w3.cell? ⟨w.heap.size, 1, none⟩ = some (.int .i64 0) := hR3.cell (i := 1) (by omega)
  have ez : (w1.setCell ⟨Bn, 3, none⟩ (.slice ao (n) cap')).heap.size = w.heap.size + 2 := by rw [← hz]; simp [World.setCell]
  have a0 : w3.cell? ⟨w.heap.size + 2, 0, none⟩ = some (.slice ca cl cc) := (hO3.cell (x := ⟨w.heap.size + 2, 0, none⟩) (by simp [hz]) (fun e => by simp at e; omega)).trans (cell_new2 ez).1
  have a1 : w3.cell? ⟨w.heap.size + 2, 1, none⟩ = some (.int .i64 nu) := (hO3.cell (x := ⟨w.heap.size + 2, 1, none⟩) (by simp [hz]) (fun e => by simp at e; omega)).trans (cell_new2 ez).2
  have hne3 : Bn ≠ w.heap.size + 2 := by omega
  have hne4 : w.heap.size ≠ w.heap.size + 2 := by omega
  have k0 := hO3.cell (x := ⟨w.heap.size + 1, 0, none⟩) (by simp [hz]) (fun e => by simp at e; omega)
  have k1 := hO3.cell (x := ⟨w.heap.size + 1, 1, none⟩) (by simp [hz]) (fun e => by simp at e; omega)
  have k2 := hO3.cell (x := ⟨w.heap.size + 1, 2, none⟩) (by simp [hz]) (fun e => by simp at e; omega)
  have HF : Hid (LastPost w Bn Bm Bs true nm ix n cM cS f g a b q ca cl cc nu (.returned (.tuple #[.pointer (some ⟨w.heap.size + 1, 0, none⟩), .agg #[.slice ca cl cc, .int .i64 nu]]))
      (((((w3.setCell ⟨Bn, 4, none⟩ (.slice so (n) sc')).setCell ⟨w.heap.size, 0, none⟩ (.slice ca cl cc)).setCell ⟨w.heap.size, 1, none⟩ (.int .i64 nu))).drew)) := by
    have hM5 := (((hM3.setOther (a := ⟨Bn, 4, none⟩) (fun e => hnm e.symm) (.slice so (n) sc')).setOther (a := ⟨w.heap.size, 0, none⟩) (Nat.ne_of_lt hlM) (.slice ca cl cc)).setOther (a := ⟨w.heap.size, 1, none⟩) (Nat.ne_of_lt hlM) (.int .i64 nu)).drew
    have hS5 := (((hS3.setOther (a := ⟨Bn, 4, none⟩) (fun e => hns e.symm) (.slice so (n) sc')).setOther (a := ⟨w.heap.size, 0, none⟩) (Nat.ne_of_lt hlS) (.slice ca cl cc)).setOther (a := ⟨w.heap.size, 1, none⟩) (Nat.ne_of_lt hlS) (.int .i64 nu)).drew
    have hN5 := ((((hN3.set 4 (.slice so (n) sc')).congr (fun c hc => nodeF_set4 _ _ _ _ _ c hc)).setOther (a := ⟨w.heap.size, 0, none⟩) (Nat.ne_of_lt hlN) (.slice ca cl cc)).setOther (a := ⟨w.heap.size, 1, none⟩) (Nat.ne_of_lt hlN) (.int .i64 nu)).drew
    refine ⟨w.heap.size + 1, 0, _, ao, cap', _, rfl, ?_, ?_, ?_, fun _ => rfl, fun h => (by cases h), hN5, HA.out, hM5, fun _ => ⟨so, sc', rfl, hso2, hS5⟩, fun h => (by cases h), ?_⟩
    · exact far3 (k0.trans (far1 g0 (by omega))) (by omega) (by omega)
    · exact far3 (k1.trans (far1 g1 (by omega))) (by omega) (by omega)
    · exact far3 (k2.trans (far1 g2 (by omega))) (by omega) (by omega)
    · exact ((((hO4.setCell (x := ⟨Bn, 4, none⟩) (.inl rfl) _).setNew (x := ⟨w.heap.size, 0, none⟩) (Nat.le_refl _) _).setNew (x := ⟨w.heap.size, 1, none⟩) (Nat.le_refl _) _)).drew
  clear hso' hS3 hO3 hz3 hN2 hM3 hN3 hR3 hO4 ez hso2 k0 k1 k2
  go_wp2
  go_region
  all_goals go_wp2
  exact bodyPost_ret (v := .tuple #[.pointer (some ⟨w.heap.size + 1, 0, none⟩), .agg #[.slice ca cl cc, .int .i64 nu]]) (by simp [results, Tryf.results30, go_sem, q0, q1, hne]) rfl HF.out

end Go.Proofs.Qxb6608660aFmt

/- My own work on the program: (*Statement).outcome at a missed condition. -/
import Derived.Test.Qxb6614456aW6
import Derived.Deep.CutRange
import Derived.Deep.AppendLies
namespace Go.Proofs.Qxb6614456a
open Go.RowKit
set_option linter.unusedVariables false
set_option linter.unusedSimpArgs false

/-- The strings as cells. -/
def strsL (n : Nat) (S : Nat → ByteArray) : List Value := (List.range n).map fun j => Value.string (S j)
theorem strsL_length (n : Nat) (S : Nat → ByteArray) : (strsL n S).length = n := by simp [strsL]
theorem strsL_at (n : Nat) (S : Nat → ByteArray) {j : Nat} (h : j < n) : (strsL n S)[j]? = some (.string (S j)) := by simp [strsL, h]
theorem strsL_succ (n : Nat) (S : Nat → ByteArray) : strsL (n + 1) S = strsL n S ++ [.string (S n)] := by simp [strsL, List.range_succ]
theorem own_strs {w : World} {base n : Nat} {v : Value} {S : Nat → ByteArray} (h : w.ownsRow base 9 1 v n (strsL n S)) : ∃ a c, v = .slice a n c ∧ StrsAt w a n S ∧ ∀ x, a = some x → base ≤ x.block := by
  obtain ⟨hl, ⟨rfl, rfl⟩ | ⟨g, cap, cur, rfl, hb, hg, hnc, hm, hs, ht⟩⟩ := h
  · exact ⟨none, 0, rfl, fun i hi => absurd hi (by omega), fun x e => by cases e⟩
  · refine ⟨_, _, rfl, fun j hj => ⟨g, 0, rfl, ?_⟩, fun x e => by cases e; exact hb⟩
    have := strsL_at n S hj
    rw [← ht, Nat.mul_one, List.getElem?_take_of_lt hj] at this
    simp [World.cell?, hg]
    simpa using this

/-- The values that a fact has: texts alone. -/
def ValsAt (w : World) (va : Option Addr) (l : Nat) (S : Nat → ByteArray) : Prop :=
  ∀ i, i < l → ∃ x, va = some ⟨x, 0, none⟩ ∧ w.cell? ⟨x, i * 14, none⟩ = some (.string (S i)) ∧ ∀ j, 0 < j → j < 14 → w.cell? ⟨x, i * 14 + j, none⟩ = some (zc j)
theorem ValsAt.below {B : Nat} {w w' : World} {a : Option Addr} {n : Nat} {S : Nat → ByteArray} (h : ValsAt w a n S) (hb : Below B w w') (hB : w.heap.size ≤ B) : ValsAt w' a n S := by
  intro i hi
  obtain ⟨x, e, h1, h2⟩ := h i hi
  have := World.block_lt_of_cell? w _ h1
  simp at this
  exact ⟨x, e, (hb.cell (by simp; omega)).trans h1, fun j h0 hj => (hb.cell (by simp; omega)).trans (h2 j h0 hj)⟩

/-- A store elsewhere. -/
theorem StrsAt.set {w : World} {a : Option Addr} {n B : Nat} {S : Nat → ByteArray} (h : StrsAt w a n S) (hB : ∀ x, a = some x → B ≤ x.block) {p : Addr} (hp : p.block < B) (v : Value) : StrsAt (w.setCell p v) a n S := by
  intro i hi
  obtain ⟨x, o, rfl, h1⟩ := h i hi
  have := hB _ rfl
  refine ⟨x, o, rfl, ?_⟩
  rw [World.cell?_setCell_other _ _ _ _ (fun e => by have := congrArg Addr.block e; simp at this; simp at *; omega)]
  exact h1
/-- An outcome whose values are the l strings S, in a row of the call's own. -/
def OutAll (w : World) (app : Bool) (el op key : ByteArray) (l : Nat) (S : Nat → ByteArray) (e : Ending) (w' : World) : Prop :=
  ∃ va vc, e = .returned (outV app el op key (.slice va l vc)) ∧ StrsAt w' va l S ∧ (∀ x, va = some x → w.heap.size ≤ x.block) ∧ Below w.heap.size w w'
theorem OutPost.all {w w' : World} {e : Ending} {app : Bool} {el op key : ByteArray} (S : Nat → ByteArray) (h : OutPost w (outV app el op key (.slice none 0 0)) e w') : OutAll w app el op key 0 S e w' :=
  ⟨none, 0, h.1, fun i hi => absurd hi (by omega), fun x e => (by cases e), h.2⟩

set_option maxRecDepth 100000 in
set_option maxHeartbeats 2000000 in
theorem outcome_4 (Bs Bf Bc n at' l : Nat) (k : Int) (t O K : ByteArray) (va : Option Addr) (vc : Nat) (S : Nat → ByteArray) (w : World) (hat : at' < n) (hn : n ≤ 1048576) (hl : l ≤ 1048576)
    (h0 : w.cell? ⟨Bs, 15, none⟩ = some (.slice (some ⟨Bc, 0, none⟩) n n))
    (h1 : w.cell? ⟨Bc, at' * 10 + 3, none⟩ = some (.int .i64 k)) (h2 : w.cell? ⟨Bc, at' * 10 + 4, none⟩ = some (.string t))
    (h3 : w.cell? ⟨Bc, at' * 10 + 8, none⟩ = some (.string O)) (h4 : w.cell? ⟨Bc, at' * 10 + 9, none⟩ = some (.string K))
    (hof : ∀ w1, Below w.heap.size w w1 → Calls Try.prog 33 #[.pointer (some ⟨Bf, 0, none⟩), .agg #[.int .i64 k, .string t]] w1 (OfPost w1 (.slice va l vc)))
    (hv : ValsAt w va l S) :
    Calls Try.prog 29 #[.pointer (some ⟨Bs, 0, none⟩), .int .u8 4, .int .i64 at', .pointer (some ⟨Bf, 0, none⟩)] w (OutAll w false cS O K l S) := by
  have hls : Bs < w.heap.size := World.block_lt_of_cell? w _ h0
  have hlc : Bc < w.heap.size := World.block_lt_of_cell? w _ h1
  have HV : Hid (ValsAt w va l S) := hv
  have HOF : Hid (∀ w1, Below w.heap.size w w1 → Calls Try.prog 33 #[.pointer (some ⟨Bf, 0, none⟩), .agg #[.int .i64 k, .string t]] w1 (OfPost w1 (.slice va l vc))) := hof
  clear hv hof
  have hcall := HOF.out (w.alloc (.cells #[.bool false, .string eS, .string eS, .string eS, .slice none 0 0] 43)) ((Below.refl _ _).alloc (Nat.le_refl _) _)
  go_enter Try.func29, Try.ntmps29
  go_wp2_with (go_at_call 33; refine hcall.mono ?_; rintro e w1 ⟨rfl, hb1⟩)
  obtain ⟨i0, hi0, hzz⟩ := Option.map_eq_some_iff.1 Try.info9
  simp only [Prod.mk.injEq] at hzz
  obtain ⟨hz0, hz1, hz2⟩ := hzz
  obtain ⟨W0, hW0⟩ : ∃ W0, W0 = w.alloc (.cells #[.bool false, .string eS, .string eS, .string eS, .slice none 0 0] 43) := ⟨_, rfl⟩
  have HW0 : Hid (Below w.heap.size w W0 ∧ W0.heap.size = w.heap.size + 1) := by
    rw [hW0]
    exact ⟨(Below.refl _ _).alloc (Nat.le_refl _) _, by simp⟩
  rw [← hW0] at hb1
  have HB1 : Hid (Below (w.heap.size + 1) W0 w1) := by rw [← HW0.out.2]; exact hb1
  have HR0 : Hid (W0.rowIs w.heap.size 43 5 (fun i => if i = 0 then .bool false else if i = 4 then .slice none 0 0 else .string eS)) := by
    rw [hW0]
    exact World.rowIs_alloc w _ 43 _ (fun i hi => by
      rcases i with _ | _ | _ | _ | _ | i
      all_goals first
        | rfl
        | (simp at hi; omega))
  clear hb1 hcall HOF hW0
  go_loopw [10, 57] (fun v i wr => ∃ q : Nat, q ≤ l ∧ i = .int .i64 q ∧ wr.ownsRow (w.heap.size + 1) 9 1 v q (strsL q S) ∧ Below (w.heap.size + 1) W0 wr) (fun _ i _ => l - (intOf i).toNat)
  case atStart => exact ⟨0, Nat.zero_le _, rfl, World.ownsRow_nil _ _ _ _, HB1.out⟩
  case round =>
    obtain ⟨q, hq, rfl, hown, hbel⟩ := hrel
    have HO : Hid (wr.ownsRow (w.heap.size + 1) 9 1 u10 q (strsL q S)) := hown
    have HB : Hid (Below (w.heap.size + 1) W0 wr) := hbel
    have HSZ : Hid (w.heap.size + 1 ≤ wr.heap.size) := by have := hbel.size; have := HW0.out.2; show _ ≤ _; omega
    have HVW : Hid (ValsAt wr va l S) := (HV.out.below HW0.out.1 (Nat.le_refl _)).below hbel (by rw [HW0.out.2]; exact Nat.le_refl _)
    clear hown hbel
    by_cases hlt : q < l
    · obtain ⟨x, rfl, c0, cj⟩ := HVW.out q hlt
      have hlx : x < wr.heap.size := World.block_lt_of_cell? wr _ c0
      have c1 : wr.cell? ⟨x, q * 14 + 1, none⟩ = some (.bool false) := cj 1 (by omega) (by omega)
      have c2 : wr.cell? ⟨x, q * 14 + 2, none⟩ = some (.string { data := #[] }) := cj 2 (by omega) (by omega)
      have c3 : wr.cell? ⟨x, q * 14 + 3, none⟩ = some (.int .i64 0) := cj 3 (by omega) (by omega)
      have c4 : wr.cell? ⟨x, q * 14 + 4, none⟩ = some (.int .u64 0) := cj 4 (by omega) (by omega)
      have c5 : wr.cell? ⟨x, q * 14 + 5, none⟩ = some (.int .i64 0) := cj 5 (by omega) (by omega)
      have c6 : wr.cell? ⟨x, q * 14 + 6, none⟩ = some (.pointer none) := cj 6 (by omega) (by omega)
      have c7 : wr.cell? ⟨x, q * 14 + 7, none⟩ = some (.bool false) := cj 7 (by omega) (by omega)
      have c8 : wr.cell? ⟨x, q * 14 + 8, none⟩ = some (.int .u64 0) := cj 8 (by omega) (by omega)
      have c9 : wr.cell? ⟨x, q * 14 + 9, none⟩ = some (.int .u64 0) := cj 9 (by omega) (by omega)
      have c10 : wr.cell? ⟨x, q * 14 + 10, none⟩ = some (.pointer none) := cj 10 (by omega) (by omega)
      have c11 : wr.cell? ⟨x, q * 14 + 11, none⟩ = some (.int .u8 0) := cj 11 (by omega) (by omega)
      have c12 : wr.cell? ⟨x, q * 14 + 12, none⟩ = some (.bool false) := cj 12 (by omega) (by omega)
      have c13 : wr.cell? ⟨x, q * 14 + 13, none⟩ = some (.bool false) := cj 13 (by omega) (by omega)
      clear cj
      have HNW : Hid (∀ j u, [Value.string (S q)][j]? = some u → ((wr.alloc (.cells #[.string (S q), .bool false, .string { data := #[] }, .int .i64 0, .int .u64 0, .int .i64 0, .pointer none, .bool false, .int .u64 0, .int .u64 0, .pointer none, .int .u8 0, .bool false, .bool false] 112)).alloc (.cells #[.string (S q)] 9)).cell? ((⟨wr.heap.size + 1, 0, none⟩ : Addr).add j) = some u) := by
        intro j u hj
        have e : (wr.alloc (.cells #[.string (S q), .bool false, .string { data := #[] }, .int .i64 0, .int .u64 0, .int .i64 0, .pointer none, .bool false, .int .u64 0, .int .u64 0, .pointer none, .int .u8 0, .bool false, .bool false] 112)).heap.size = wr.heap.size + 1 := by simp
        rw [← e]
        exact World.news_of_block (heap_alloc_new _ _) j u (by simpa using hj)
      have HO2 : Hid (((wr.alloc (.cells #[.string (S q), .bool false, .string { data := #[] }, .int .i64 0, .int .u64 0, .int .i64 0, .pointer none, .bool false, .int .u64 0, .int .u64 0, .pointer none, .int .u8 0, .bool false, .bool false] 112)).alloc (.cells #[.string (S q)] 9)).ownsRow (w.heap.size + 1) 9 1 u10 q (strsL q S)) := (HO.out.alloc _).alloc _
      have HB2 : Hid (Below (w.heap.size + 1) W0 ((wr.alloc (.cells #[.string (S q), .bool false, .string { data := #[] }, .int .i64 0, .int .u64 0, .int .i64 0, .pointer none, .bool false, .int .u64 0, .int .u64 0, .pointer none, .int .u8 0, .bool false, .bool false] 112)).alloc (.cells #[.string (S q)] 9))) := (HB.out.alloc HSZ.out _).alloc (by simp; have := HSZ.out; omega) _
      have HS2 : Hid (w.heap.size + 1 ≤ ((wr.alloc (.cells #[.string (S q), .bool false, .string { data := #[] }, .int .i64 0, .int .u64 0, .int .i64 0, .pointer none, .bool false, .int .u64 0, .int .u64 0, .pointer none, .int .u8 0, .bool false, .bool false] 112)).alloc (.cells #[.string (S q)] 9)).heap.size) := by have := HSZ.out; show _ ≤ _; simp; omega
      go_wp2_with (at_builtin; refine wpList_append_own _ rfl (.tmp 61) (.tmp 64) 41 rfl (w.heap.size + 1) 9 i0 _ 1 16 Try.underlying41 hi0 hz0 hz1 hz2 rfl (by decide) u10 q (strsL q S) rfl HO2.out ⟨wr.heap.size + 1, 0, none⟩ 1 1 [.string (S q)] rfl rfl HNW.out (by simp [Value.oneCell']) (by simp only [maxLen]; omega) (by omega) HS2.out ?_; intro v3 w3 ho3 hg3 _; have HO3 : Hid (w3.ownsRow (w.heap.size + 1) 9 1 v3 (q + 1) (strsL (q + 1) S)) := (by show _; rw [strsL_succ]; exact ho3); have HB3 : Hid (Below (w.heap.size + 1) W0 w3) := HB2.out.grown hg3 HS2.out (fun b hb => (HO2.out.lt b hb).1); clear ho3 hg3)
      go_roundw
      case rel => exact ⟨q + 1, by omega, by go_num, HO3.out, HB3.out⟩
      case measure => simp [intOf]; omega
    · obtain rfl : l = q := by omega
      have hr := HR0.out.of_block (HB.out.block _ (by omega))
      have r0 : wr.cell? ⟨w.heap.size, 0, none⟩ = some (.bool false) := hr.cell (i := 0) (by omega)
      have r1 : wr.cell? ⟨w.heap.size, 1, none⟩ = some (.string eS) := hr.cell (i := 1) (by omega)
      have r2 : wr.cell? ⟨w.heap.size, 2, none⟩ = some (.string eS) := hr.cell (i := 2) (by omega)
      have r3 : wr.cell? ⟨w.heap.size, 3, none⟩ = some (.string eS) := hr.cell (i := 3) (by omega)
      have r4 : wr.cell? ⟨w.heap.size, 4, none⟩ = some (.slice none 0 0) := hr.cell (i := 4) (by omega)
      have f0 := hr.frozen 0
      have f1 := hr.frozen 1
      have f2 := hr.frozen 2
      have f3 := hr.frozen 3
      have f4 := hr.frozen 4
      have hcw : Below w.heap.size w wr := HW0.out.1.trans (HB.out.mono (by omega))
      have g3 : wr.cell? ⟨Bc, at' * 10 + 8, none⟩ = some (.string O) := (hcw.cell hlc).trans h3
      have g4 : wr.cell? ⟨Bc, at' * 10 + 9, none⟩ = some (.string K) := (hcw.cell hlc).trans h4
      have HCW : Hid (Below w.heap.size w wr) := hcw
      obtain ⟨ra, rc, rfl, hstr, hrb⟩ := own_strs HO.out
      have t0 := hr.set 0 (.bool false)
      have t1 := t0.set 1 (.string { data := #[67, 111, 110, 100, 105, 116, 105, 111, 110] })
      have t2 := t1.set 2 (.string O)
      have t3 := t2.set 3 (.string K)
      have t4 := t3.set 4 (.slice ra l rc)
      have HX : Hid ((wr.setCell ⟨w.heap.size, 0, none⟩ (.bool false)).cell? ⟨w.heap.size, 0, none⟩ = some (.bool false) ∧
          ((wr.setCell ⟨w.heap.size, 0, none⟩ (.bool false)).setCell ⟨w.heap.size, 1, none⟩ (.string { data := #[67, 111, 110, 100, 105, 116, 105, 111, 110] })).cell? ⟨w.heap.size, 1, none⟩ = some (.string { data := #[67, 111, 110, 100, 105, 116, 105, 111, 110] }) ∧
          (((wr.setCell ⟨w.heap.size, 0, none⟩ (.bool false)).setCell ⟨w.heap.size, 1, none⟩ (.string { data := #[67, 111, 110, 100, 105, 116, 105, 111, 110] })).setCell ⟨w.heap.size, 2, none⟩ (.string O)).cell? ⟨w.heap.size, 2, none⟩ = some (.string O) ∧
          ((((wr.setCell ⟨w.heap.size, 0, none⟩ (.bool false)).setCell ⟨w.heap.size, 1, none⟩ (.string { data := #[67, 111, 110, 100, 105, 116, 105, 111, 110] })).setCell ⟨w.heap.size, 2, none⟩ (.string O)).setCell ⟨w.heap.size, 3, none⟩ (.string K)).cell? ⟨w.heap.size, 3, none⟩ = some (.string K) ∧
          (((((wr.setCell ⟨w.heap.size, 0, none⟩ (.bool false)).setCell ⟨w.heap.size, 1, none⟩ (.string { data := #[67, 111, 110, 100, 105, 116, 105, 111, 110] })).setCell ⟨w.heap.size, 2, none⟩ (.string O)).setCell ⟨w.heap.size, 3, none⟩ (.string K)).setCell ⟨w.heap.size, 4, none⟩ (.slice ra l rc)).cell? ⟨w.heap.size, 4, none⟩ = some (.slice ra l rc)) :=
        ⟨(t0.cell (i := 0) (by omega)).trans (by simp), (t1.cell (i := 1) (by omega)).trans (by simp), (t2.cell (i := 2) (by omega)).trans (by simp), (t3.cell (i := 3) (by omega)).trans (by simp), (t4.cell (i := 4) (by omega)).trans (by simp)⟩
      clear t0 t1 t2 t3 t4
      clear hr hcw h0 h1 h2 h3 h4 HV HVW HR0 HB1
      have HST : Hid (StrsAt wr ra l S) := hstr
      have HRB : Hid (∀ x, ra = some x → w.heap.size + 1 ≤ x.block) := hrb
      clear hstr hrb HO
      go_wp2_with fail
      have HFB : Hid (Below w.heap.size w (((((wr.setCell ⟨w.heap.size, 0, none⟩ (.bool false)).setCell ⟨w.heap.size, 1, none⟩ (.string { data := #[67, 111, 110, 100, 105, 116, 105, 111, 110] })).setCell ⟨w.heap.size, 2, none⟩ (.string O)).setCell ⟨w.heap.size, 3, none⟩ (.string K)).setCell ⟨w.heap.size, 4, none⟩ (.slice ra l rc)).drew) :=
        (((((HCW.out.setCell (p := ⟨w.heap.size, 0, none⟩) (Nat.le_refl _) _).setCell (p := ⟨w.heap.size, 1, none⟩) (Nat.le_refl _) _).setCell (p := ⟨w.heap.size, 2, none⟩) (Nat.le_refl _) _).setCell (p := ⟨w.heap.size, 3, none⟩) (Nat.le_refl _) _).setCell (p := ⟨w.heap.size, 4, none⟩) (Nat.le_refl _) _).drew
      have HFS : Hid (StrsAt (((((wr.setCell ⟨w.heap.size, 0, none⟩ (.bool false)).setCell ⟨w.heap.size, 1, none⟩ (.string { data := #[67, 111, 110, 100, 105, 116, 105, 111, 110] })).setCell ⟨w.heap.size, 2, none⟩ (.string O)).setCell ⟨w.heap.size, 3, none⟩ (.string K)).setCell ⟨w.heap.size, 4, none⟩ (.slice ra l rc)).drew ra l S) :=
        (((((HST.out.set HRB.out (p := ⟨w.heap.size, 0, none⟩) (Nat.lt_succ_self _) _).set HRB.out (p := ⟨w.heap.size, 1, none⟩) (Nat.lt_succ_self _) _).set HRB.out (p := ⟨w.heap.size, 2, none⟩) (Nat.lt_succ_self _) _).set HRB.out (p := ⟨w.heap.size, 3, none⟩) (Nat.lt_succ_self _) _).set HRB.out (p := ⟨w.heap.size, 4, none⟩) (Nat.lt_succ_self _) _)
      go_region
      go_wp2_with fail
      obtain ⟨x0, x1, x2, x3, x4⟩ := HX.out
      exact bodyPost_ret (v := outV false cS O K (.slice ra l rc)) (by simp [results, Try.results29, go_sem, outV, cS, x0, x1, x2, x3, x4]) rfl ⟨ra, rc, rfl, HFS.out, fun x e => by have := HRB.out x e; omega, HFB.out⟩
end Go.Proofs.Qxb6614456a

import Derived.Test.Qxb6608660aFmtW9
namespace Go.Proofs.Qxb6608660aFmt
open Go.RowKit
set_option linter.unusedSimpArgs false
set_option linter.unusedVariables false

theorem last_any (w : World) (Bn Bm Bs : Nat) (tr : Bool) (nm : ByteArray) (ix : Int) (n : Nat) (cM cS : Nat) (f g : Nat → Value) (sv : Value) (a b : ByteArray) (q : Int) (ca : Option Addr) (cl cc : Nat) (nu : Int)
    (hn : n ≤ 1048575) (hnm : Bn ≠ Bm) (hns : tr = true → Bn ≠ Bs) (hms : tr = true → Bm ≠ Bs) (h : LastIn w Bn Bm Bs tr nm ix n cM cS f g sv)
    (f0 : f (n * 3) = .string a) (f1 : f (n * 3 + 1) = .string b) (f2 : f (n * 3 + 2) = .iface 3 (.int .i64 q)) (g0 : tr = true → g (n * 2) = .slice ca cl cc) (g1 : tr = true → g (n * 2 + 1) = .int .i64 nu) :
    Calls Tryf.prog 30 #[.pointer (some ⟨Bn, 0, none⟩), .int .i64 n] w (LastPost w Bn Bm Bs tr nm ix n cM cS f g a b q ca cl cc nu) := by
  cases tr
  · by_cases e : n = 0
    · subst e
      exact last_zero_plain w Bn Bm Bs nm ix cM cS f g sv a b q ca cl cc nu hnm h f0 f1 f2
    · exact last_pos_plain w Bn Bm Bs nm ix n cM cS f g sv a b q ca cl cc nu hnm hn (by omega) h f0 f1 f2
  · by_cases e : n = 0
    · subst e
      exact last_zero_traced w Bn Bm Bs nm ix cM cS f g sv a b q ca cl cc nu hnm (hns rfl) (hms rfl) h f0 f1 f2 (g0 rfl) (g1 rfl)
    · exact last_pos_traced w Bn Bm Bs nm ix n cM cS f g sv a b q ca cl cc nu hnm hn (by omega) (hns rfl) (hms rfl) h f0 f1 f2 (g0 rfl) (g1 rfl)

theorem LastIn.alloc {w : World} {Bn Bm Bs : Nat} {tr : Bool} {nm : ByteArray} {ix : Int} {n cM cS : Nat} {f g : Nat → Value} {sv : Value} (h : LastIn w Bn Bm Bs tr nm ix n cM cS f g sv) (o : Obj) : LastIn (w.alloc o) Bn Bm Bs tr nm ix n cM cS f g sv :=
  ⟨h.node.alloc o, h.msgs.alloc o, h.room, h.most, fun ht => ⟨(h.traced ht).1, (h.traced ht).2.1.alloc o, (h.traced ht).2.2⟩, h.plain⟩

set_option maxRecDepth 100000 in
set_option maxHeartbeats 1000000 in
theorem zzLast_any (w : World) (Bn Bm Bs : Nat) (tr : Bool) (nm : ByteArray) (ix : Int) (n : Nat) (cM cS : Nat) (f g : Nat → Value) (sv : Value) (a b : ByteArray) (q : Int) (ca : Option Addr) (cl cc : Nat) (nu : Int)
    (hn : n ≤ 1048575) (hnm : Bn ≠ Bm) (hns : tr = true → Bn ≠ Bs) (hms : tr = true → Bm ≠ Bs) (h : LastIn w Bn Bm Bs tr nm ix n cM cS f g sv)
    (f0 : f (n * 3) = .string a) (f1 : f (n * 3 + 1) = .string b) (f2 : f (n * 3 + 2) = .iface 3 (.int .i64 q)) (g0 : tr = true → g (n * 2) = .slice ca cl cc) (g1 : tr = true → g (n * 2 + 1) = .int .i64 nu) :
    Calls Tryf.prog 18 #[.pointer (some ⟨Bn, 0, none⟩), .int .i64 n] w (LastPost w Bn Bm Bs tr nm ix n cM cS f g a b q ca cl cc nu) := by
  have hBn := h.node.lt
  have hBm := h.msgs.lt
  have hBs : tr = true → Bs < w.heap.size := fun ht => (h.traced ht).2.1.lt
  have HC : Hid (Calls Tryf.prog 30 #[.pointer (some ⟨Bn, 0, none⟩), .int .i64 n] (w.alloc (.cells #[.slice none 0 0, .int .i64 0] 52)) (LastPost (w.alloc (.cells #[.slice none 0 0, .int .i64 0] 52)) Bn Bm Bs tr nm ix n cM cS f g a b q ca cl cc nu)) :=
    last_any _ Bn Bm Bs tr nm ix n cM cS f g sv a b q ca cl cc nu hn hnm hns hms (h.alloc _) f0 f1 f2 g0 g1
  have HB : Hid (tr = true → Bs < w.heap.size) := hBs
  clear h f0 f1 f2 g0 g1 hBs hns hms
  go_enter Tryf.func18, Tryf.ntmps18
  go_wp2_with fail
  refine HC.out.mono ?_
  rintro e w1 ⟨mb, mo, sg, ao, cap', sv', rfl, h0, h1, h2, htr, hpl, hN, hao, hM, hT, hU, hO⟩
  obtain ⟨u, v, hsg⟩ : ∃ u v, sg = .agg #[u, v] := by
    cases tr
    · exact ⟨_, _, hpl rfl⟩
    · exact ⟨_, _, htr rfl⟩
  subst hsg
  have hu1 : ∃ a m c, u = .slice a m c := by
    cases tr
    · exact ⟨_, _, _, by have := hpl rfl; simp at this; exact this.1⟩
    · exact ⟨_, _, _, by have := htr rfl; simp at this; exact this.1⟩
  have hv1 : ∃ m, v = .int .i64 m := by
    cases tr
    · exact ⟨_, by have := hpl rfl; simp at this; exact this.2⟩
    · exact ⟨_, by have := htr rfl; simp at this; exact this.2⟩
  obtain ⟨ua, um, uc, rfl⟩ := hu1
  obtain ⟨vm, rfl⟩ := hv1
  have hR := hO.row (rowIs_stamp0 w) (fun e => by rcases e with e | e | ⟨h, e⟩; omega; omega; have := HB.out h; omega)
  have r0 : w1.cell? ⟨w.heap.size, 0, none⟩ = some (.slice none 0 0) := hR.cell (i := 0) (by omega)
  have r1 : w1.cell? ⟨w.heap.size, 1, none⟩ = some (.int .i64 0) := hR.cell (i := 1) (by omega)
  have fR := hR.frozen
  have hmb : mb ≠ w.heap.size := by
    intro e
    subst e
    rcases (show mo = 0 ∨ mo + 1 = 1 ∨ mo ≠ 0 from by omega) with e | e | e
    · subst e; rw [r0] at h0; cases h0
    · have : mo = 0 := by omega
      subst this; rw [r0] at h0; cases h0
    · have hlt : ∀ k v, w1.cell? ⟨w.heap.size, k, none⟩ = some v → k < 2 := fun k v hk => by
        obtain ⟨c, hc, hcs, _⟩ := hR
        simp [World.cell?, hc] at hk
        have := (Array.getElem?_eq_some_iff.1 hk).1
        omega
      have := hlt _ _ h2
      omega
  have HF : Hid (LastPost w Bn Bm Bs tr nm ix n cM cS f g a b q ca cl cc nu (.returned (.tuple #[.pointer (some ⟨mb, mo, none⟩), .agg #[.slice ua um uc, .int .i64 vm]])) ((w1.setCell ⟨w.heap.size, 0, none⟩ (.slice ua um uc)).setCell ⟨w.heap.size, 1, none⟩ (.int .i64 vm))) := by
    refine ⟨mb, mo, _, ao, cap', sv', rfl, far0 hmb (far0 hmb h0), far0 hmb (far0 hmb h1), far0 hmb (far0 hmb h2), htr, hpl, ?_, hao, ?_, fun ht => ?_, hU, ?_⟩
    · exact (hN.setOther (a := ⟨w.heap.size, 0, none⟩) (Nat.ne_of_lt hBn) _).setOther (a := ⟨w.heap.size, 1, none⟩) (Nat.ne_of_lt hBn) _
    · exact (hM.setOther (a := ⟨w.heap.size, 0, none⟩) (Nat.ne_of_lt hBm) _).setOther (a := ⟨w.heap.size, 1, none⟩) (Nat.ne_of_lt hBm) _
    · obtain ⟨so, sc', e1, e2, e3⟩ := hT ht
      exact ⟨so, sc', e1, e2, (e3.setOther (a := ⟨w.heap.size, 0, none⟩) (Nat.ne_of_lt (HB.out ht)) _).setOther (a := ⟨w.heap.size, 1, none⟩) (Nat.ne_of_lt (HB.out ht)) _⟩
    · exact ((((Only.refl _ w).alloc _).trans hO).setNew (x := ⟨w.heap.size, 0, none⟩) (Nat.le_refl _) _).setNew (x := ⟨w.heap.size, 1, none⟩) (Nat.le_refl _) _
  clear h0 h1 h2 htr hpl hN hao hM hT hU hO hR
  go_wp2
  exact bodyPost_ret (v := .tuple #[.pointer (some ⟨mb, mo, none⟩), .agg #[.slice ua um uc, .int .i64 vm]]) (by simp [results, Tryf.results18, go_sem, r0, r1]) rfl HF.out

end Go.Proofs.Qxb6608660aFmt

/- My own work on the program: callOutcome walked. -/
import Derived.Test.Qxb6614456aW14
namespace Go.Proofs.Qxb6614456a
open Go.RowKit
set_option linter.unusedVariables false
set_option linter.unusedSimpArgs false

set_option maxRecDepth 100000 in
set_option maxHeartbeats 4000000 in
theorem callOutcome_any (ms at' : Int) (p q r : Bool) (a : Option Addr) (n c : Nat) (O K T : Nat → ByteArray) (I : Nat → Int) (b : Option Addr) (m d : Nat) (FI : Nat → Int) (FT : Nat → ByteArray) (A : Nat → Option Addr) (L C : Nat → Nat) (X : Nat → Nat → ByteArray) (w : World)
    (hn : n ≤ 1048576) (hm : m ≤ 1048576) (hL : ∀ j, j < m → L j ≤ 1048576) (hc : CondsAt w a n O K T I) (hf : FactsAt w b m FI FT A L C X) (hFI : ∀ j, j < m → 0 ≤ FI j ∧ FI j < 49) (hFT : ∀ j, j < m → (FT j).size ≤ maxLen)
    (app : Bool) (el op key : ByteArray) (l : Nat) (S : Nat → ByteArray) (hs : OutSpec ms at' p q r n m O K T I FI FT L X app el op key l S) :
    Calls Try.prog 20 #[.int .u8 ms, .int .i64 at', .bool p, .bool q, .bool r, .slice a n c, .slice b m d] w (OutAll w app el op key l S) := by
  have HSP : Hid (OutSpec ms at' p q r n m O K T I FI FT L X app el op key l S) := hs
  have HC : Hid (CondsAt w a n O K T I) := hc
  have HF : Hid (FactsAt w b m FI FT A L C X) := hf
  have HK : Hid ((∀ j, j < m → L j ≤ 1048576) ∧ (∀ j, j < m → 0 ≤ FI j ∧ FI j < 49) ∧ ∀ j, j < m → (FT j).size ≤ maxLen) := ⟨hL, hFI, hFT⟩
  clear hs hc hf hL hFI hFT
  have hmk9 := fun wx => run_make_rows (P := Try.prog) 41 9 _ 1 16 Try.underlying41 Try.info9 .i64 .i64 n (by omega) (by omega) wx
  have hmk3 := fun wx => run_make_rows (P := Try.prog) 30 3 _ 1 8 Try.underlying30 Try.info3 .i64 .i64 n (by omega) (by omega) wx
  go_enter Try.func20, Try.ntmps20
  go_wp2_with fail
  clear hmk9 hmk3
  go_loopw [19, 38] (fun _ i wr => ∃ (k : Nat) (f1 f2 f3 f4 : Nat → Value), k ≤ n ∧ i = .int .i64 k ∧ Rows4 w wr n k O K T I f1 f2 f3 f4) (fun _ i _ => n - (intOf i).toNat)
  case atStart =>
    obtain ⟨f1, f2, f3, f4, h⟩ := Rows4.start (w := w) (n := n) (O := O) (K := K) (T := T) (I := I) (z1 := #[.string eS]) (z2 := #[.string eS]) (z3 := #[.string eS]) (z4 := #[.int .i64 0]) (c := #[.bool false, .string eS, .string eS, .string eS, .slice none 0 0]) rfl
    exact ⟨0, f1, f2, f3, f4, Nat.zero_le _, rfl, h⟩
  case round =>
    obtain ⟨k, f1, f2, f3, f4, hk, rfl, hr⟩ := hrel
    have HR : Hid (Rows4 w wr n k O K T I f1 f2 f3 f4) := hr
    by_cases hlt : k < n
    · obtain ⟨x, o, rfl, c0, c1, c2, c3⟩ := HC.out.below hr.bel (Nat.le_refl _) k hlt
      have hx : x < w.heap.size := by
        obtain ⟨x', o', e, g, _⟩ := HC.out k hlt
        have := World.block_lt_of_cell? w _ g
        simp at e this
        omega
      have d1 : wr.cell? ⟨w.heap.size + 1, k, none⟩ = some (f1 k) := hr.r1.cell hlt
      have e1 := hr.r1.frozen k
      have d2 : wr.cell? ⟨w.heap.size + 1 + 1, k, none⟩ = some (f2 k) := hr.r2.cell hlt
      have e2 := hr.r2.frozen k
      have d3 : wr.cell? ⟨w.heap.size + 1 + 1 + 1, k, none⟩ = some (f3 k) := hr.r3.cell hlt
      have e3 := hr.r3.frozen k
      have d4 : wr.cell? ⟨w.heap.size + 1 + 1 + 1 + 1, k, none⟩ = some (f4 k) := hr.r4.cell hlt
      have e4 := hr.r4.frozen k
      clear hr
      go_wp2_with fail
      go_roundw
      case rel => 
        obtain ⟨g1, g2, g3, g4, h⟩ := HR.out.step
        exact ⟨k + 1, g1, g2, g3, g4, by omega, by go_num, h⟩
      case measure => simp [intOf]; omega
    · obtain rfl : n = k := by omega
      clear hr
      obtain ⟨V, hV⟩ : ∃ V, V = wr := ⟨_, rfl⟩
      subst hV
      have hmk9 := fun wx => run_make_rows (P := Try.prog) 41 9 _ 1 16 Try.underlying41 Try.info9 .i64 .i64 m (by omega) (by omega) wx
      have hmk3 := fun wx => run_make_rows (P := Try.prog) 30 3 _ 1 8 Try.underlying30 Try.info3 .i64 .i64 m (by omega) (by omega) wx
      have hmk41 := fun wx => run_make_rows (P := Try.prog) 57 41 _ 1 24 Try.underlying57 Try.info41 .i64 .i64 m (by omega) (by omega) wx
      go_wp2_with fail
      clear hmk9 hmk3 hmk41
      go_loopw [23, 85] (fun _ i wx => ∃ (k : Nat) (f1 f2 f3 : Nat → Value), k ≤ m ∧ i = .int .i64 k ∧ Rows3 V wx m k FI FT A L C f1 f2 f3) (fun _ i _ => m - (intOf i).toNat)
      case atStart =>
        obtain ⟨g1, g2, g3, h⟩ := Rows3.start (w := V) (n := m) (FI := FI) (FT := FT) (A := A) (L := L) (C := C) (z1 := #[.int .i64 0]) (z2 := #[.string eS]) (z3 := #[.slice none 0 0])
        exact ⟨0, g1, g2, g3, Nat.zero_le _, rfl, h⟩
      case round =>
        obtain ⟨k2, g1, g2, g3, hk2, rfl, hr⟩ := hrel
        obtain ⟨wx, hwx⟩ : ∃ wx, wx = wr := ⟨_, rfl⟩
        subst hwx
        have HR3 : Hid (Rows3 V wx m k2 FI FT A L C g1 g2 g3) := hr
        have HBX : Hid (Below w.heap.size w wx) := HR.out.bel.trans (hr.bel.mono HR.out.bel.size)
        by_cases hlt2 : k2 < m
        · obtain ⟨x, o, rfl, c0, c1, c2, _, _⟩ := HF.out.below HBX.out (Nat.le_refl _) k2 hlt2
          have hx : x < V.heap.size := by
            obtain ⟨x', o', e, g, _⟩ := HF.out k2 hlt2
            have := World.block_lt_of_cell? w _ g
            have := HR.out.bel.size
            simp at *
            omega
          have d1 : wx.cell? ⟨V.heap.size, k2, none⟩ = some (g1 k2) := hr.r1.cell hlt2
          have e1 := hr.r1.frozen k2
          have d2 : wx.cell? ⟨V.heap.size + 1, k2, none⟩ = some (g2 k2) := hr.r2.cell hlt2
          have e2 := hr.r2.frozen k2
          have d3 : wx.cell? ⟨V.heap.size + 1 + 1, k2, none⟩ = some (g3 k2) := hr.r3.cell hlt2
          have e3 := hr.r3.frozen k2
          clear hr
          go_wp2_with fail
          go_roundw
          case rel =>
            obtain ⟨g1, g2, g3, h⟩ := HR3.out.step
            exact ⟨k2 + 1, g1, g2, g3, by omega, by go_num, h⟩
          case measure => simp [intOf]; omega
        · obtain rfl : m = k2 := by omega
          have hb4 : ∀ bk, bk < V.heap.size → wx.heap[bk]? = V.heap[bk]? := fun bk h => hr.bel.block bk h
          have q1 := HR.out.s1.strs (HR.out.r1.of_block (hb4 _ HR.out.r1.lt))
          have q2 := HR.out.s2.strs (HR.out.r2.of_block (hb4 _ HR.out.r2.lt))
          have q3 := HR.out.s3.strs (HR.out.r3.of_block (hb4 _ HR.out.r3.lt))
          have q4 := HR.out.s4.ints (HR.out.r4.of_block (hb4 _ HR.out.r4.lt))
          have hFx := HF.out.below HBX.out (Nat.le_refl _)
          have q7 := hr.s3.texts (X := X) hr.r3 (fun j hj => by
            obtain ⟨_, _, _, _, _, _, h4, _⟩ := hFx j hj
            exact ⟨h4, HK.out.1 j hj⟩)
          have hcall := zzOutcome_any ms at' p q r _ _ _ _ _ _ _ n m n n n n m m m O K T I FI FT A L C X wx hn hm q1 q2 q3 q4 (hr.s1.ints hr.r1) (hr.s2.strs hr.r2) q7 HK.out.2.1 HK.out.2.2 app el op key l S HSP.out
          obtain ⟨f0, hr0⟩ := HR.out.r0
          have hrx := hr0.of_block (hb4 _ hr0.lt)
          have hlx : w.heap.size < wx.heap.size := hrx.lt
          have HRX : Hid (wx.rowIs w.heap.size 43 5 f0) := hrx
          clear hr0 hrx HR HR3 HF HC hFx q1 q2 q3 q4 q7 hb4 hr HSP HK
          go_wp2_with (go_at_call 26; refine hcall.mono ?_; rintro e w1 ⟨va, vc, rfl, hstr, hxb, hb1⟩; (have hr := HRX.out.of_block (hb1.block _ hlx)); (have r0 := hr.cell (i := 0) (by omega)); (have r1 := hr.cell (i := 1) (by omega)); (have r2 := hr.cell (i := 2) (by omega)); (have r3 := hr.cell (i := 3) (by omega)); (have r4 := hr.cell (i := 4) (by omega)); (have f0 := hr.frozen 0); (have f1 := hr.frozen 1); (have f2 := hr.frozen 2); (have f3 := hr.frozen 3); (have f4 := hr.frozen 4); (have HX : Hid _ := out_reads hr (.bool app) (.string el) (.string op) (.string key) (.slice va l vc)); (have HEND : Hid (OutAll w app el op key l S (.returned (outV app el op key (.slice va l vc))) (((((w1.setCell ⟨w.heap.size, 0, none⟩ (.bool app)).setCell ⟨w.heap.size, 1, none⟩ (.string el)).setCell ⟨w.heap.size, 2, none⟩ (.string op)).setCell ⟨w.heap.size, 3, none⟩ (.string key)).setCell ⟨w.heap.size, 4, none⟩ (.slice va l vc))) := OutAll.stored HBX.out hlx hstr hxb hb1); clear hr hstr hxb hb1; simp only [outV])
          obtain ⟨x0, x1, x2, x3, x4⟩ := HX.out
          exact bodyPost_ret (v := outV app el op key (.slice va l vc)) (by simp [results, Try.results20, go_sem, outV, x0, x1, x2, x3, x4]) rfl HEND.out
end Go.Proofs.Qxb6614456a

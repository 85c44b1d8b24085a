/- My own work on the program: FnValueEndIsLocal walked. -/
import Derived.Test.Qxb6609087aW4
import Derived.Deep.CutRange
import Derived.WideShapes
import Derived.Lib.SliceRun
import Derived.WalkSpells
import Derived.WalkLawsBesides
namespace Go.Proofs.Qxb6609087a
open Go.RowKit
set_option linter.unusedVariables false
set_option linter.unusedSimpArgs false

/-- What 'a copy first' leaves: a slice of the same bytes. -/
def Copied (w : World) (n : Nat) (Z : Nat → Int) (v : Value) (wc : World) : Prop :=
  ∃ b c, v = .slice b n c ∧ (b = none → n = 0 ∧ c = 0) ∧ BytesAt wc b n Z ∧ Below w.heap.size w wc

theorem madeRow (w : World) (n : Nat) (hn : n ≤ 1048576) : (Instr.makeSlice 22 (.int .i64 (n : Int)) (.int .i64 (n : Int))).run Try.prog w = .ok (.slice (some ⟨w.heap.size, 0, none⟩) n n) (w.alloc (.cells (madeCells #[.int .u8 0] n) 5)) :=
  run_make_row' (P := Try.prog) 22 5 (.int .u8 0) 1 Try.underlying22 Try.info5 rfl .i64 .i64 n (by omega) (by omega) w
theorem madeRoom (w : World) (m n : Nat) (hm : m ≤ 1048576) (hn : n ≤ 1048576) : (Instr.makeSlice 22 (.int .i64 0) (.int .i64 ((m : Int) + n))).run Try.prog w = .ok (.slice (some ⟨w.heap.size, 0, none⟩) 0 (m + n)) (w.alloc (.cells (madeCells #[.int .u8 0] (m + n)) 5)) := by
  obtain ⟨i, hi, hzz⟩ := Option.map_eq_some_iff.1 Try.info5
  simp only [Prod.mk.injEq] at hzz
  obtain ⟨hz, hs, hb⟩ := hzz
  have hr := run_make (P := Try.prog) w 22 5 i (.int .u8 0) Try.underlying22 hi hz .i64 .i64 0 ((m : Int) + n) (by omega) (by omega) (by rw [hb]; omega) (by omega)
  have e1 : ((m : Int) + n).toNat = m + n := by omega
  rw [e1, hs, Nat.mul_one] at hr
  exact hr
theorem roomOwn (w : World) (k : Nat) (hk : k ≤ 1048576) : (w.alloc (.cells (madeCells #[.int .u8 0] k) 5)).ownsRow w.heap.size 5 1 (.slice (some ⟨w.heap.size, 0, none⟩) 0 k) 0 [] :=
  World.ownsRow_made w _ k (Nat.le_refl _) (by simp only [maxLen]; omega) (by rw [size_madeCells]; omega)

theorem copied_of {w w2 : World} {n : Nat} {Z : Nat → Int} (hz : w2.heap[w.heap.size]? = some (.cells (splice (madeCells #[.int .u8 0] n).toList 0 (bytesL n Z)).toArray 5 (0, 0))) (hb : Below w.heap.size w w2) : Copied w n Z (.slice (some ⟨w.heap.size, 0, none⟩) n n) w2 := by
  refine ⟨some ⟨w.heap.size, 0, none⟩, n, rfl, fun h => absurd h (by simp), bytesAt_of_block hz fun j hj => ?_, hb⟩
  simp only [splice, List.take_zero, List.nil_append, List.getElem?_toArray]
  rw [List.getElem?_append_left (by rw [bytesL_length]; exact hj)]
  exact bytesL_at n Z hj

theorem copyRun (w : World) (a1 : Option Addr) (n c1 : Nat) (Z : Nat → Int) (hn : n ≤ 1048576) (h : BytesAt w a1 n Z) :
    ∃ w2, (Builtin.copy_ #[22, 22] 3 #[.slice (some ⟨w.heap.size, 0, none⟩) n n, .slice a1 n c1]).run Try.prog (w.alloc (.cells (madeCells #[.int .u8 0] n) 5)) = .ok (.int .i64 n) w2 ∧
      Hid (Copied w n Z (.slice (some ⟨w.heap.size, 0, none⟩) n n) w2) := by
  have hsz : (Try.prog.info? 5).map (·.size) = some 1 := by kernel_rfl
  have hbw : Below w.heap.size w (w.alloc (.cells (madeCells #[.int .u8 0] n) 5)) := (Below.refl _ _).alloc (Nat.le_refl _) _
  by_cases h0 : n = 0
  · subst h0
    exact ⟨_, run_copy_none (P := Try.prog) _ 22 22 3 5 _ a1 0 0 0 c1 Try.underlying22 hsz rfl, _, _, rfl, fun e => absurd e (by simp), fun i hi => absurd hi (by omega), hbw⟩
  · have hg := heap_alloc_new w (.cells (madeCells #[.int .u8 0] n) 5)
    obtain ⟨x, o, rfl, _⟩ := h 0 (by omega)
    have hsrc : ∀ j v, (bytesL n Z)[j]? = some v → (w.alloc (.cells (madeCells #[.int .u8 0] n) 5)).cell? ((⟨x, o, none⟩ : Addr).add j) = some v := by
      intro j v hj
      have hjm : j < n := by
        have := (List.getElem?_eq_some_iff.1 hj).1
        rwa [bytesL_length] at this
      rw [bytesL_at n Z hjm] at hj
      cases hj
      obtain ⟨x', o', e', hc⟩ := (h.below hbw (Nat.le_refl _)) j hjm
      cases e'
      rw [WideShapes.add_plain]
      exact hc
    have hr := run_copy_row (P := Try.prog) _ 22 22 3 5 w.heap.size 0 n n ⟨x, o, none⟩ n c1 _ 5 (bytesL n Z) Try.underlying22 hsz hg (by rw [bytesL_length]; simp) hsrc (by rw [bytesL_length, size_madeCells]; omega) (bytesL_one n Z)
    rw [bytesL_length] at hr
    refine ⟨_, hr, copied_of ?_ (below_setRow hbw (Nat.le_refl _) _)⟩
    have := setRow_heap _ w.heap.size _ ((madeCells #[.int .u8 0] n).toList.take 0 ++ (bytesL n Z ++ (madeCells #[.int .u8 0] n).toList.drop (0 + (bytesL n Z).length))).toArray 5 (0, 0) hg
    rw [bytesL_length] at this
    simpa [splice, bytesL_length] using this

set_option maxRecDepth 100000 in
set_option maxHeartbeats 2000000 in
theorem local_main (a0 : Option Addr) (m c0 : Nat) (P : Nat → Int) (a1 : Option Addr) (n c1 : Nat) (Z : Nat → Int) (a2 : Option Addr) (l c2 : Nat) (T : Nat → Int) (i : Nat) (w : World)
    (hm : m ≤ 262144) (hn : n ≤ 262144) (hl : l ≤ 262144) (hi : i ≤ n)
    (h0 : BytesAt w a0 m P) (h1 : BytesAt w a1 n Z) (h2 : BytesAt w a2 l T)
    (z0 : a0 = none → m = 0 ∧ c0 = 0) (z1 : a1 = none → n = 0 ∧ c1 = 0) (z2 : a2 = none → l = 0 ∧ c2 = 0) :
    Calls Try.prog 4 #[.slice a0 m c0, .slice a1 n c1, .slice a2 l c2, .int .i64 i] w fun e w' => e = .returned (.bool true) ∧ Below w.heap.size w w' := by
  have hzz := zzBytes_local a0 m c0 a1 n c1 a2 l c2 i w (by omega) (by omega) (by omega)
  have heq := fun wx => Lib.run_eql_slice_nil (P := Try.prog) wx 22 5 a1 n c1 0 0 Try.underlying22
  have q0 : decide (262144 < (m : Int)) = false := decide_eq_false (by omega)
  have q1 : decide (262144 < (n : Int)) = false := decide_eq_false (by omega)
  have q2 : decide (262144 < (l : Int)) = false := decide_eq_false (by omega)
  have q3 : decide ((i : Int) < 0) = false := decide_eq_false (by omega)
  have HB : Hid (BytesAt w a0 m P ∧ BytesAt w a1 n Z ∧ BytesAt w a2 l T) := ⟨h0, h1, h2⟩
  clear h0 h1 h2
  go_enter Try.func4, Try.ntmps4
  go_upto_if 37 with (go_at_call 8; refine hzz.mono ?_; rintro e w ⟨b, rfl, rfl⟩; cases b)
  · go_wp2
    go_ret
    exact ⟨rfl, Below.refl _ _⟩
  · clear hzz
    go_cut [1, 9] from 13 to 44 (fun v z wc => Copied w n Z v wc)
    case first =>
      cases a1 with
      | none =>
        have hz1 := z1 rfl
        have HC : Hid (Copied w n Z (.slice none 0 0) w) := ⟨none, 0, by rw [hz1.1], fun _ => ⟨hz1.1, rfl⟩, fun i hi => absurd hi (by omega), Below.refl _ _⟩
        clear hz1
        go_wp2_with fail
        go_meet
        case rel => exact HC.out
      | some ad =>
        have hmk := madeRow w n (by omega)
        obtain ⟨w2, hcp, HC⟩ := copyRun w (some ad) n c1 Z (by omega) HB.out.2.1
        go_wp2_with fail
        go_meet
        case rel => exact HC.out
    case rest =>
      obtain ⟨b, c, rfl, zb, hraw, hbel⟩ := hcut
      have HP : Hid (BytesAt wc a0 m P ∧ BytesAt wc b n Z ∧ BytesAt wc a2 l T) := ⟨HB.out.1.below hbel (Nat.le_refl _), hraw, HB.out.2.2.below hbel (Nat.le_refl _)⟩
      have HBEL : Hid (Below w.heap.size w wc) := hbel
      have hc1 := zzValueEnd_any b n c Z i wc (by omega) (by omega) hraw
      have HE : Hid (ve (joinF m P Z) (m + n) (m + i) = m + ve Z n i ∧ (ve Z n i < n → ve (joinF n Z T) (n + l) i = ve Z n i) ∧ (i < n → stops (Z i) = false → i < ve Z n i)) :=
        ⟨ve_shift Z _ m n (fun j => by rw [joinF, if_neg (by omega), Nat.add_sub_cancel_left]) i, ve_tail Z _ n (n + l) (by omega) (fun j hj => by simp [joinF, hj]) i, ve_pos Z n i⟩
      have hrle : ve Z n i ≤ n + 1 := ve_le Z n n 0 i (by omega)
      generalize ve Z n i = r at hc1 HE hrle
      clear hraw hbel HB heq z1
      go_upto_region 16 with (go_at_call 6; refine hc1.mono ?_; rintro e wd ⟨rfl, rfl⟩)
      clear hc1
      have hmk := madeRoom wd m n (by omega) (by omega)
      have HO : Hid ((wd.alloc (.cells (madeCells #[.int .u8 0] (m + n)) 5)).ownsRow wd.heap.size 5 1 (.slice (some ⟨wd.heap.size, 0, none⟩) 0 (m + n)) 0 []) := roomOwn wd (m + n) (by omega)
      have HW : Hid (Below wd.heap.size wd (wd.alloc (.cells (madeCells #[.int .u8 0] (m + n)) 5))) := (Below.refl _ _).alloc (Nat.le_refl _) _
      have HS : Hid (wd.heap.size ≤ (wd.alloc (.cells (madeCells #[.int .u8 0] (m + n)) 5)).heap.size) := HW.out.size
      go_upto_region 19 with (at_builtin; first
        | (refine wpList_append_bytes rfl (.tmp 54) (.tmp 55) rfl wd.heap.size _ 0 [] rfl HO.out a0 m c0 P rfl z0 (HP.out.1.below HW.out (Nat.le_refl _)) (by omega) HS.out wd HW.out ?_; intro v1 w1 ho1 hb1; have HO1 : Hid (w1.ownsRow wd.heap.size 5 1 v1 (0 + m) ([] ++ bytesL m P)) := ho1; have HB1 : Hid (Below wd.heap.size wd w1) := hb1; clear ho1 hb1 HO HW HS hmk)
        | (refine wpList_append_bytes rfl (.tmp 57) (.tmp 58) rfl wd.heap.size _ (0 + m) _ rfl HO1.out b n c Z rfl zb (HP.out.2.1.below HB1.out (Nat.le_refl _)) (by omega) HB1.out.size wd HB1.out ?_; intro v2 w2 ho2 hb2; have HO2 : Hid (w2.ownsRow wd.heap.size 5 1 v2 (0 + m + n) ([] ++ bytesL m P ++ bytesL n Z)) := ho2; have HB2 : Hid (Below wd.heap.size wd w2) := hb2; clear ho2 hb2 HO1 HB1))
      obtain ⟨ja, jc, rfl, hj⟩ := own_bytes (Z := joinF m P Z) (n := m + n) (by have := HO2.out; rw [List.nil_append, bytesL_join, Nat.zero_add] at this; exact this)
      have hc2 : Calls Try.prog 6 #[.slice ja (m + n) jc, .int .i64 ((m : Int) + i)] w2 fun e w' => e = .returned (.int .i64 ((m : Int) + r)) ∧ w' = w2 := by
        have := zzValueEnd_any ja (m + n) jc (joinF m P Z) (m + i) w2 (by omega) (by omega) hj
        rw [HE.out.1] at this
        simpa using this
      clear hj HO2
      go_upto_region 21 with (go_at_call 6; refine hc2.mono ?_; rintro e w2 ⟨rfl, rfl⟩)
      clear hc2
      go_upto_if 74 with fail
      go_cut [12] from 45 to 91 (fun _ wx => Below w2.heap.size w2 wx)
      case first =>
        by_cases hrn : r < n
        · have hmk := madeRoom w2 n l (by omega) (by omega)
          have HE2 : Hid (ve (joinF n Z T) (n + l) i = r) := HE.out.2.1 hrn
          have HP2 : Hid (BytesAt w2 b n Z ∧ BytesAt w2 a2 l T) := ⟨HP.out.2.1.below HB2.out (Nat.le_refl _), HP.out.2.2.below HB2.out (Nat.le_refl _)⟩
          have HO : Hid ((w2.alloc (.cells (madeCells #[.int .u8 0] (n + l)) 5)).ownsRow w2.heap.size 5 1 (.slice (some ⟨w2.heap.size, 0, none⟩) 0 (n + l)) 0 []) := roomOwn w2 (n + l) (by omega)
          have HW : Hid (Below w2.heap.size w2 (w2.alloc (.cells (madeCells #[.int .u8 0] (n + l)) 5))) := (Below.refl _ _).alloc (Nat.le_refl _) _
          have HS : Hid (w2.heap.size ≤ (w2.alloc (.cells (madeCells #[.int .u8 0] (n + l)) 5)).heap.size) := HW.out.size
          clear HE HP HB2
          go_upto_region 25 with (at_builtin; first
            | (refine wpList_append_bytes rfl (.tmp 81) (.tmp 82) rfl w2.heap.size _ 0 [] rfl HO.out b n c Z rfl zb (HP2.out.1.below HW.out (Nat.le_refl _)) (by omega) HS.out w2 HW.out ?_; intro v1 w1 ho1 hb1; have HO1 : Hid (w1.ownsRow w2.heap.size 5 1 v1 (0 + n) ([] ++ bytesL n Z)) := ho1; have HB1 : Hid (Below w2.heap.size w2 w1) := hb1; clear ho1 hb1 HO HW HS hmk)
            | (refine wpList_append_bytes rfl (.tmp 84) (.tmp 85) rfl w2.heap.size _ (0 + n) _ rfl HO1.out a2 l c2 T rfl z2 (HP2.out.2.below HB1.out (Nat.le_refl _)) (by omega) HB1.out.size w2 HB1.out ?_; intro v3 w3 ho3 hb3; have HO3 : Hid (w3.ownsRow w2.heap.size 5 1 v3 (0 + n + l) ([] ++ bytesL n Z ++ bytesL l T)) := ho3; have HB3 : Hid (Below w2.heap.size w2 w3) := hb3; clear ho3 hb3 HO1 HB1))
          obtain ⟨ka, kc, rfl, hk⟩ := own_bytes (Z := joinF n Z T) (n := n + l) (by have := HO3.out; rw [List.nil_append, bytesL_join, Nat.zero_add] at this; exact this)
          have hc3 : Calls Try.prog 6 #[.slice ka (n + l) kc, .int .i64 i] w3 fun e w' => e = .returned (.int .i64 r) ∧ w' = w3 := by
            have := zzValueEnd_any ka (n + l) kc (joinF n Z T) i w3 (by omega) (by omega) hk
            rw [HE2.out] at this
            exact this
          clear hk HO3
          go_wp2_with (go_at_call 6; refine hc3.mono ?_; rintro e w3 ⟨rfl, rfl⟩)
          go_meet
          case rel => exact HB3.out
        · have HR : Hid (Below w2.heap.size w2 w2) := Below.refl _ _
          go_wp2_with fail
          go_meet
          case rel => exact HR.out
      case rest =>
        have HF : Hid (Below w.heap.size w wc) := HBEL.out.trans (((HB2.out.mono HBEL.out.size)).trans (hcut.mono (Nat.le_trans HBEL.out.size HB2.out.size)))
        have HR : Hid (BytesAt wc b n Z) := (HP.out.2.1.below HB2.out (Nat.le_refl _)).below hcut (Nat.le_refl _)
        clear HP HB2 hcut HBEL zb z0 z2
        by_cases hin : i < n
        · obtain ⟨x, o, rfl, hc⟩ := HR.out i hin
          have hstop := veStop_any (Z i) wc
          have hpos := HE.out.2.2 hin
          clear HE HR
          cases hst : stops (Z i) with
          | true =>
            rw [hst] at hstop
            clear hpos
            go_wp2_with (go_at_call 9; refine hstop.mono ?_; rintro e wc ⟨rfl, rfl⟩)
            go_ret
            exact ⟨rfl, HF.out⟩
          | false =>
            rw [hst] at hstop
            have hir := hpos hst
            have nle : decide ((r : Int) ≤ i) = false := decide_eq_false (by omega)
            clear hpos
            go_wp2_with (go_at_call 9; refine hstop.mono ?_; rintro e wc ⟨rfl, rfl⟩)
            go_ret
            exact ⟨rfl, HF.out⟩
        · go_wp2
          go_ret
          exact ⟨rfl, HF.out⟩
end Go.Proofs.Qxb6609087a

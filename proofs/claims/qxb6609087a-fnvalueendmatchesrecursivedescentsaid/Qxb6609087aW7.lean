/- My own work on the program: valueEnd against the recursive reader; veModel and FnValueEndMatchesRecursiveDescent walked. (Written by wip/tools/gen_v7.py.) -/
import Derived.Test.Qxb6609087aW5
import Derived.Test.Qxb6609087aW6
namespace Go.Proofs.Qxb6609087a
open Go.RowKit
set_option linter.unusedVariables false
set_option linter.unusedSimpArgs false

theorem kd_le (c : Int) : kd c ≤ 4 := by
  unfold kd
  repeat' split
  all_goals decide

/-- valueEnd at depth d, fuel enough. -/
def vv (g : Nat → Int) (n d j : Nat) : Nat := veLoop g n n d j
theorem vv_past (g : Nat → Int) (n d j : Nat) (h : n ≤ j) : vv g n d j = j := by
  unfold vv
  rw [veLoop_fuel g n n 0 d j (by omega) (by omega), veLoop]
theorem ge_past (g : Nat → Int) (n j : Nat) (h : n ≤ j) : ge g n j = j := by
  unfold ge
  rw [geLoop_fuel g n n 0 j (by omega) (by omega), geLoop]
theorem vv_step (g : Nat → Int) (n d j : Nat) (h : j < n) : vv g n d j =
    if kd (g j) = 1 then (if d = 0 then se g n (j + 1) else vv g n d (se g n (j + 1)))
    else if kd (g j) = 2 then vv g n (d + 1) (j + 1)
    else if kd (g j) = 3 then (if d = 0 then j else if d = 1 then j + 1 else vv g n (d - 1) (j + 1))
    else if kd (g j) = 4 then (if d = 0 then j else vv g n d (j + 1))
    else vv g n d (j + 1) := by
  unfold vv
  have s1 := se_ge g n (j + 1)
  rw [veLoop_fuel g n n (n + 1) d j (by omega) (by omega), veLoop, if_pos h]
theorem ge_step (g : Nat → Int) (n j : Nat) (h : j < n) : ge g n j =
    if kd (g j) = 1 then ge g n (se g n (j + 1))
    else if kd (g j) = 2 then ge g n (ge g n (j + 1))
    else if kd (g j) = 3 then j + 1
    else ge g n (j + 1) := by
  unfold ge
  rw [geLoop_fuel g n n (n + 1) j (by omega) (by omega), geLoop, if_pos h]

/-- THE HEART: at depth k + 1 valueEnd goes to the group's end and on at depth k. -/
theorem vv_group (g : Nat → Int) (n : Nat) : ∀ f j, n ≤ j + f → ∀ k, vv g n (k + 1) j = if k = 0 then ge g n j else vv g n k (ge g n j) := by
  intro f
  induction f with
  | zero =>
    intro j h k
    rw [vv_past g n _ j (by omega), ge_past g n j (by omega), vv_past g n k j (by omega)]
    split <;> rfl
  | succ f ih =>
    intro j h k
    by_cases h1 : j < n
    · have s1 := se_ge g n (j + 1)
      have g1 := ge_ge g n (j + 1)
      rw [vv_step g n (k + 1) j h1, ge_step g n j h1]
      by_cases k1 : kd (g j) = 1
      · rw [if_pos k1, if_pos k1, if_neg (by omega)]
        exact ih _ (by omega) k
      rw [if_neg k1, if_neg k1]
      by_cases k2 : kd (g j) = 2
      · rw [if_pos k2, if_pos k2, ih (j + 1) (by omega) (k + 1), if_neg (by omega)]
        exact ih _ (by omega) k
      rw [if_neg k2, if_neg k2]
      by_cases k3 : kd (g j) = 3
      · rw [if_pos k3, if_pos k3, if_neg (by omega)]
        by_cases hk : k = 0
        · rw [if_pos hk, if_pos (by omega)]
        · rw [if_neg hk, if_neg (by omega), Nat.add_sub_cancel]
      rw [if_neg k3, if_neg k3]
      by_cases k4 : kd (g j) = 4
      · rw [if_pos k4, if_neg (by omega)]
        exact ih _ (by omega) k
      rw [if_neg k4]
      exact ih _ (by omega) k
    · rw [vv_past g n _ j (by omega), ge_past g n j (by omega), vv_past g n k j (by omega)]
      split <;> rfl

theorem vv_model (g : Nat → Int) (n : Nat) : ∀ f i, n ≤ i + f → vv g n 0 i = afterRun g n (scLoop g n f i) := by
  intro f
  induction f with
  | zero => intro i h; rw [vv_past g n 0 i (by omega), scLoop, afterRun, if_neg (by omega)]
  | succ f ih =>
    intro i h
    rw [scLoop]
    by_cases h1 : i < n
    · rw [if_pos h1, vv_step g n 0 i h1]
      have hle := kd_le (g i)
      by_cases k0 : kd (g i) = 0
      · rw [if_pos k0, if_neg (by omega), if_neg (by omega), if_neg (by omega), if_neg (by omega)]
        exact ih (i + 1) (by omega)
      · rw [if_neg k0, afterRun, if_pos h1]
        by_cases k1 : kd (g i) = 1
        · rw [if_pos k1, if_pos k1, if_pos rfl]
        rw [if_neg k1, if_neg k1]
        by_cases k2 : kd (g i) = 2
        · rw [if_pos k2, if_pos k2, vv_group g n n (i + 1) (by omega) 0, if_pos rfl]
        rw [if_neg k2, if_neg k2]
        by_cases k3 : kd (g i) = 3
        · rw [if_pos k3, if_pos rfl]
        rw [if_neg k3, if_pos (by omega), if_pos rfl]
    · rw [if_neg h1, vv_past g n 0 i (by omega), afterRun, if_neg h1]
/-- THE PLAIN LAW. -/
theorem ve_vm (g : Nat → Int) (n i : Nat) : ve g n i = vm g n i := vv_model g n n i (by omega)

set_option maxRecDepth 100000 in
theorem veModel_past (a : Option Addr) (n c : Nat) (i : Nat) (w : World) (h : n ≤ i) (hi : i ≤ 9223372036854775807) :
    Calls Try.prog 7 #[.slice a n c, .int .i64 i] w fun e w' => e = .returned (.int .i64 i) ∧ w' = w := by
  have hlt : ¬ i < n := by omega
  go_enter Try.func7, Try.ntmps7
  go_wp2
  go_loopw [5] (fun v wr => v = .int .i64 i ∧ wr = w) (fun _ _ => 0)
  case atStart => exact ⟨rfl, rfl⟩
  case round =>
    obtain ⟨rfl, rfl⟩ := hrel
    go_wp2
    go_ret
    exact ⟨rfl, rfl⟩

set_option maxRecDepth 100000 in
set_option maxHeartbeats 1000000 in
theorem veModel_any (a : Option Addr) (n c : Nat) (Z : Nat → Int) (i0 : Nat) (w : World) (hn : n ≤ 1048576) (hi : i0 ≤ 1048577)
    (ha : BytesAt w a n Z) :
    Calls Try.prog 7 #[.slice a n c, .int .i64 i0] w fun e w' => e = .returned (.int .i64 (vm Z n i0 : Nat)) ∧ w' = w := by
  generalize hR : vm Z n i0 = R
  have hR' : afterRun Z n (scLoop Z n n i0) = R := hR
  clear hR
  have HA : Hid (BytesAt w a n Z) := ha
  clear ha
  go_enter Try.func7, Try.ntmps7
  go_wp2
  go_loopw [5] (fun v wr => ∃ p f : Nat, n ≤ p + f ∧ p ≤ 2000000 ∧ v = .int .i64 p ∧ afterRun Z n (scLoop Z n f p) = R ∧ wr = w) (fun v _ => n + 2 - (intOf v).toNat)
  case atStart => exact ⟨i0, n, by omega, by omega, rfl, hR', rfl⟩
  case round =>
    obtain ⟨p, f, hf, hp, rfl, hr, rfl⟩ := hrel
    clear hR'
    by_cases hlt : p < n
    · obtain ⟨x, o, rfl, hc⟩ := HA.out p hlt
      obtain ⟨f, rfl⟩ : ∃ f', f = f' + 1 := ⟨f - 1, by omega⟩
      rw [scLoop, if_pos hlt] at hr
      have hsc := veScalar_any (Z p) wr
      by_cases k0 : kd (Z p) = 0
      · rw [if_pos k0] at hr
        have HH : Hid (afterRun Z n (scLoop Z n f (p + 1)) = R) := hr
        rw [show decide (kd (Z p) = 0) = true from decide_eq_true k0] at hsc
        clear hr k0
        go_wp2_with (go_at_call 11; refine hsc.mono ?_; rintro e w2 ⟨rfl, rfl⟩)
        go_roundw
        case rel => exact ⟨p + 1, f, by omega, by omega, by go_num, HH.out, trivial⟩
        case measure => simp [intOf]; omega
      · rw [if_neg k0, afterRun, if_pos hlt] at hr
        rw [show decide (kd (Z p) = 0) = false from decide_eq_false k0] at hsc
        rcases kd_cases (Z p) with h | ⟨h0, _⟩
        · rcases h with hv | hv | hv | hv | hv | hv | hv | hv | hv | hv | hv
          · have hk1 : kd (Z p) = 1 := by rw [hv]; rfl
            rw [if_pos hk1] at hr
            have hcall := veStringEnd_any (some ⟨x, o, none⟩) n c Z p wr (by omega) (by omega) HA.out
            rw [hr] at hcall
            rw [hv] at hc hsc
            clear hk1 hr k0
            go_wp2_with (first | (go_at_call 11; refine hsc.mono ?_; rintro e w2 ⟨rfl, rfl⟩) | (go_at_call 12; refine hcall.mono ?_; rintro e w2 ⟨rfl, rfl⟩))
            go_ret
            exact ⟨rfl, rfl⟩
          · have hk1 : kd (Z p) = 2 := by rw [hv]; rfl
            rw [if_neg (by rw [hk1]; decide), if_pos hk1] at hr
            have hcall := veGroupEnd_any (some ⟨x, o, none⟩) n c Z wr (by omega) HA.out n p (by omega) hlt
            rw [hr] at hcall
            rw [hv] at hc hsc
            clear hk1 hr k0
            go_wp2_with (first | (go_at_call 11; refine hsc.mono ?_; rintro e w2 ⟨rfl, rfl⟩) | (go_at_call 13; refine hcall.mono ?_; rintro e w2 ⟨rfl, rfl⟩))
            go_ret
            exact ⟨rfl, rfl⟩
          · have hk1 : kd (Z p) = 2 := by rw [hv]; rfl
            rw [if_neg (by rw [hk1]; decide), if_pos hk1] at hr
            have hcall := veGroupEnd_any (some ⟨x, o, none⟩) n c Z wr (by omega) HA.out n p (by omega) hlt
            rw [hr] at hcall
            rw [hv] at hc hsc
            clear hk1 hr k0
            go_wp2_with (first | (go_at_call 11; refine hsc.mono ?_; rintro e w2 ⟨rfl, rfl⟩) | (go_at_call 13; refine hcall.mono ?_; rintro e w2 ⟨rfl, rfl⟩))
            go_ret
            exact ⟨rfl, rfl⟩
          · have hk1 : kd (Z p) = 3 := by rw [hv]; rfl
            rw [if_neg (by rw [hk1]; decide), if_neg (by rw [hk1]; decide)] at hr
            subst hr
            rw [hv] at hc hsc
            clear hk1 k0
            go_wp2_with (go_at_call 11; refine hsc.mono ?_; rintro e w2 ⟨rfl, rfl⟩)
            go_ret
            exact ⟨rfl, rfl⟩
          · have hk1 : kd (Z p) = 3 := by rw [hv]; rfl
            rw [if_neg (by rw [hk1]; decide), if_neg (by rw [hk1]; decide)] at hr
            subst hr
            rw [hv] at hc hsc
            clear hk1 k0
            go_wp2_with (go_at_call 11; refine hsc.mono ?_; rintro e w2 ⟨rfl, rfl⟩)
            go_ret
            exact ⟨rfl, rfl⟩
          · have hk1 : kd (Z p) = 4 := by rw [hv]; rfl
            rw [if_neg (by rw [hk1]; decide), if_neg (by rw [hk1]; decide)] at hr
            subst hr
            rw [hv] at hc hsc
            clear hk1 k0
            go_wp2_with (go_at_call 11; refine hsc.mono ?_; rintro e w2 ⟨rfl, rfl⟩)
            go_ret
            exact ⟨rfl, rfl⟩
          · have hk1 : kd (Z p) = 4 := by rw [hv]; rfl
            rw [if_neg (by rw [hk1]; decide), if_neg (by rw [hk1]; decide)] at hr
            subst hr
            rw [hv] at hc hsc
            clear hk1 k0
            go_wp2_with (go_at_call 11; refine hsc.mono ?_; rintro e w2 ⟨rfl, rfl⟩)
            go_ret
            exact ⟨rfl, rfl⟩
          · have hk1 : kd (Z p) = 4 := by rw [hv]; rfl
            rw [if_neg (by rw [hk1]; decide), if_neg (by rw [hk1]; decide)] at hr
            subst hr
            rw [hv] at hc hsc
            clear hk1 k0
            go_wp2_with (go_at_call 11; refine hsc.mono ?_; rintro e w2 ⟨rfl, rfl⟩)
            go_ret
            exact ⟨rfl, rfl⟩
          · have hk1 : kd (Z p) = 4 := by rw [hv]; rfl
            rw [if_neg (by rw [hk1]; decide), if_neg (by rw [hk1]; decide)] at hr
            subst hr
            rw [hv] at hc hsc
            clear hk1 k0
            go_wp2_with (go_at_call 11; refine hsc.mono ?_; rintro e w2 ⟨rfl, rfl⟩)
            go_ret
            exact ⟨rfl, rfl⟩
          · have hk1 : kd (Z p) = 4 := by rw [hv]; rfl
            rw [if_neg (by rw [hk1]; decide), if_neg (by rw [hk1]; decide)] at hr
            subst hr
            rw [hv] at hc hsc
            clear hk1 k0
            go_wp2_with (go_at_call 11; refine hsc.mono ?_; rintro e w2 ⟨rfl, rfl⟩)
            go_ret
            exact ⟨rfl, rfl⟩
          · have hk1 : kd (Z p) = 4 := by rw [hv]; rfl
            rw [if_neg (by rw [hk1]; decide), if_neg (by rw [hk1]; decide)] at hr
            subst hr
            rw [hv] at hc hsc
            clear hk1 k0
            go_wp2_with (go_at_call 11; refine hsc.mono ?_; rintro e w2 ⟨rfl, rfl⟩)
            go_ret
            exact ⟨rfl, rfl⟩
        · exact absurd h0 k0
    · have hR2 : R = p := by
        have e : scLoop Z n f p = p := by
          cases f with
          | zero => rfl
          | succ f => rw [scLoop, if_neg hlt]
        rw [e, afterRun, if_neg hlt] at hr
        exact hr.symm
      subst hR2
      clear hr
      go_wp2
      go_ret
      exact ⟨rfl, rfl⟩

theorem zzBytes_match (a0 : Option Addr) (m c0 : Nat) (i : Int) (w : World) (h0 : m ≤ 9223372036854775807) :
    Calls Try.prog 5 #[.slice a0 m c0, .int .i64 i] w (SomeBool w) := by
  by_cases t0 : 1048576 < m
  · go_enter Try.func5, Try.ntmps5
    go_wp2
    go_ret
    exact ⟨_, rfl, rfl⟩
  go_enter Try.func5, Try.ntmps5
  go_wp2
  go_ret
  exact ⟨_, rfl, rfl⟩

set_option maxRecDepth 100000 in
set_option maxHeartbeats 1000000 in
theorem match_main (a0 : Option Addr) (n c0 : Nat) (Z : Nat → Int) (i : Nat) (w : World)
    (hn : n ≤ 65536) (hi : i ≤ 9223372036854775807) (h0 : BytesAt w a0 n Z) (z0 : a0 = none → n = 0 ∧ c0 = 0) :
    Calls Try.prog 3 #[.slice a0 n c0, .int .i64 i] w fun e w' => e = .returned (.bool true) ∧ Below w.heap.size w w' := by
  have hzz := zzBytes_match a0 n c0 i w (by omega)
  have heq := fun wx => Lib.run_eql_slice_nil (P := Try.prog) wx 22 5 a0 n c0 0 0 Try.underlying22
  have q1 : decide (65536 < (n : Int)) = false := decide_eq_false (by omega)
  have q3 : decide ((i : Int) < 0) = false := decide_eq_false (by omega)
  have HB : Hid (BytesAt w a0 n Z) := h0
  clear h0
  go_enter Try.func3, Try.ntmps3
  go_upto_if 16 with (go_at_call 5; refine hzz.mono ?_; rintro e w ⟨b, rfl, rfl⟩; cases b)
  · go_wp2
    go_ret
    exact ⟨rfl, Below.refl _ _⟩
  · clear hzz
    go_cut [0, 5] from 6 to 23 (fun v z wc => Copied w n Z v wc)
    case first =>
      cases a0 with
      | none =>
        have hz1 := z0 rfl
        have HC : Hid (Copied w n Z (.slice none 0 0) w) := ⟨none, 0, by rw [hz1.1], fun _ => ⟨hz1.1, rfl⟩, fun i hi => absurd hi (by omega), Below.refl _ _⟩
        clear hz1
        go_wp2_with fail
        go_meet
        case rel => exact HC.out
      | some ad =>
        have hmk := madeRow w n (by omega)
        obtain ⟨w2, hcp, HC⟩ := copyRun w (some ad) n c0 Z (by omega) HB.out
        go_wp2_with fail
        go_meet
        case rel => exact HC.out
    case rest =>
      obtain ⟨b, c, rfl, zb, hraw, hbel⟩ := hcut
      have HBEL : Hid (Below w.heap.size w wc) := hbel
      obtain ⟨r, hc1, hc2⟩ : ∃ r : Nat, (Calls Try.prog 6 #[.slice b n c, .int .i64 i] wc fun e w' => e = .returned (.int .i64 r) ∧ w' = wc) ∧ (Calls Try.prog 7 #[.slice b n c, .int .i64 i] wc fun e w' => e = .returned (.int .i64 r) ∧ w' = wc) := by
        by_cases hin : i < n
        · refine ⟨ve Z n i, zzValueEnd_any b n c Z i wc (by omega) (by omega) hraw, ?_⟩
          rw [ve_vm]
          exact veModel_any b n c Z i wc (by omega) (by omega) hraw
        · exact ⟨i, zzValueEnd_past b n c i wc (by omega) hi, veModel_past b n c i wc (by omega) hi⟩
      clear hraw hbel HB heq z0 zb
      go_wp2_with (first | (go_at_call 6; refine hc1.mono ?_; rintro e w2 ⟨rfl, rfl⟩) | (go_at_call 7; refine hc2.mono ?_; rintro e w2 ⟨rfl, rfl⟩))
      go_ret
      exact ⟨rfl, HBEL.out⟩

/-- The tests ahead of the work: one of them strikes. -/
theorem match_early (a0 : Option Addr) (n c0 : Nat) (i : Int) (w : World) (h0 : n ≤ 9223372036854775807) (h : 65536 < n ∨ i < 0) :
    Calls Try.prog 3 #[.slice a0 n c0, .int .i64 i] w fun e w' => e = .returned (.bool true) ∧ Below w.heap.size w w' := by
  have hzz := zzBytes_match a0 n c0 i w h0
  by_cases t0 : 65536 < n
  · clear h
    go_enter Try.func3, Try.ntmps3
    go_wp2_with (go_at_call 5; refine hzz.mono ?_; rintro e w ⟨b, rfl, rfl⟩; cases b)
    all_goals
      go_ret
      exact ⟨rfl, Below.refl _ _⟩
  have t1 : i < 0 := by omega
  clear h
  go_enter Try.func3, Try.ntmps3
  go_wp2_with (go_at_call 5; refine hzz.mono ?_; rintro e w ⟨b, rfl, rfl⟩; cases b)
  all_goals
    go_ret
    exact ⟨rfl, Below.refl _ _⟩
end Go.Proofs.Qxb6609087a

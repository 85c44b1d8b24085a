/- My own work on the program: veStringEnd, veScalar, veGroupEnd, veModel as plain functions. (Written by wip/tools/gen_v6.py.) -/
import Derived.Test.Qxb6609087aW4
namespace Go.Proofs.Qxb6609087a
open Go.RowKit
set_option linter.unusedVariables false
set_option linter.unusedSimpArgs false

set_option maxRecDepth 100000 in
theorem veStringEnd_any (a : Option Addr) (n c : Nat) (Z : Nat → Int) (i : Nat) (w : World) (hn : n ≤ 2097152) (hi : i ≤ 2097152)
    (ha : BytesAt w a n Z) :
    Calls Try.prog 12 #[.slice a n c, .int .i64 i] w fun e w' => e = .returned (.int .i64 (se Z n (i + 1) : Nat)) ∧ w' = w := by
  generalize hR : se Z n (i + 1) = R
  have hR' : seLoop Z n n (i + 1) = R := hR
  clear hR
  go_enter Try.func12, Try.ntmps12
  go_wp2
  go_loopw [5] (fun v wr => ∃ j f : Nat, n ≤ j + f ∧ j ≤ 3000000 ∧ v = .int .i64 j ∧ seLoop Z n f j = R ∧ wr = w) (fun v _ => n + 2 - (intOf v).toNat)
  case atStart => exact ⟨i + 1, n, by omega, by omega, by go_num, hR', rfl⟩
  case round =>
    obtain ⟨j, f, hf, hj, rfl, hr, rfl⟩ := hrel
    by_cases hlt : j < n
    · obtain ⟨x, o, rfl, hc⟩ := ha j hlt
      obtain ⟨f, rfl⟩ : ∃ f', f = f' + 1 := ⟨f - 1, by omega⟩
      rw [seLoop, if_pos hlt] at hr
      by_cases h92 : Z j = 92
      · rw [if_pos h92] at hr
        have HH : Hid (seLoop Z n f (j + 2) = R) := hr
        clear ha hr hR'
        rw [h92] at hc
        go_wp2
        go_roundw
        case rel => exact ⟨j + 2, f, by omega, by omega, by go_num, HH.out, trivial⟩
        case measure => simp [intOf]; omega
      · rw [if_neg h92] at hr
        have n92 : (Z j == 92) = false := by simpa using h92
        by_cases h34 : Z j = 34
        · rw [if_pos h34] at hr
          subst hr
          clear ha hR'
          rw [h34] at hc
          go_wp2
          go_ret
          exact ⟨by go_num, rfl⟩
        · rw [if_neg h34] at hr
          have n34 : (Z j == 34) = false := by simpa using h34
          have HH : Hid (seLoop Z n f (j + 1) = R) := hr
          clear ha hr hR'
          go_wp2
          go_roundw
          case rel => exact ⟨j + 1, f, by omega, by omega, by go_num, HH.out, trivial⟩
          case measure => simp [intOf]; omega
    · have hR2 : R = j := by
        cases f with
        | zero => exact hr.symm
        | succ f => rw [seLoop, if_neg hlt] at hr; exact hr.symm
      subst hR2
      clear ha hr hR'
      go_wp2
      go_ret
      exact ⟨rfl, rfl⟩

theorem veScalar_any (c : Int) (w : World) : Calls Try.prog 11 #[.int .u8 c] w fun e w' => e = .returned (.bool (decide (kd c = 0))) ∧ w' = w := by
  rcases kd_cases c with h | ⟨h0, m1, m2, m3, m4, m5, m6, m7, m8, m9, m10, m11⟩
  · rcases h with rfl | rfl | rfl | rfl | rfl | rfl | rfl | rfl | rfl | rfl | rfl
    all_goals
      go_enter Try.func11, Try.ntmps11
      go_wp2
      go_ret
      exact ⟨rfl, rfl⟩
  · have e : decide (kd c = 0) = true := by simp [h0]
    rw [e]
    clear e h0
    have e1 : (c == 34) = false := by simpa using m1
    have e2 : (c == 91) = false := by simpa using m2
    have e3 : (c == 123) = false := by simpa using m3
    have e4 : (c == 93) = false := by simpa using m4
    have e5 : (c == 125) = false := by simpa using m5
    have e6 : (c == 44) = false := by simpa using m6
    have e7 : (c == 58) = false := by simpa using m7
    have e8 : (c == 32) = false := by simpa using m8
    have e9 : (c == 9) = false := by simpa using m9
    have e10 : (c == 10) = false := by simpa using m10
    have e11 : (c == 13) = false := by simpa using m11
    go_enter Try.func11, Try.ntmps11
    go_wp2
    go_ret
    exact ⟨rfl, rfl⟩

/-- veGroupEnd's loop, with fuel. -/
def geLoop (g : Nat → Int) (n : Nat) : Nat → Nat → Nat
  | 0, j => j
  | f + 1, j =>
    if j < n then
      if kd (g j) = 1 then geLoop g n f (se g n (j + 1))
      else if kd (g j) = 2 then geLoop g n f (geLoop g n f (j + 1))
      else if kd (g j) = 3 then j + 1
      else geLoop g n f (j + 1)
    else j
/-- Where the group whose bytes begin at j ends. -/
def ge (g : Nat → Int) (n j : Nat) : Nat := geLoop g n n j
theorem geLoop_ge (g : Nat → Int) (n : Nat) : ∀ f j, j ≤ geLoop g n f j := by
  intro f
  induction f with
  | zero => intro j; exact Nat.le_refl _
  | succ f ih =>
    intro j
    rw [geLoop]
    have s1 := se_ge g n (j + 1)
    have i1 := ih (se g n (j + 1))
    have i2 := ih (j + 1)
    have i3 := ih (geLoop g n f (j + 1))
    repeat' split
    all_goals omega
theorem geLoop_le (g : Nat → Int) (n : Nat) : ∀ f j, j ≤ n + 1 → geLoop g n f j ≤ n + 1 := by
  intro f
  induction f with
  | zero => intro j h; exact h
  | succ f ih =>
    intro j h
    rw [geLoop]
    by_cases h1 : j < n
    · rw [if_pos h1]
      have s1 := se_le g n (j + 1) (by omega)
      have i1 := ih (se g n (j + 1)) s1
      have i2 := ih (j + 1) (by omega)
      have i3 := ih (geLoop g n f (j + 1)) i2
      repeat' split
      all_goals omega
    · rw [if_neg h1]; exact h
theorem geLoop_fuel (g : Nat → Int) (n : Nat) : ∀ f f' j, n ≤ j + f → n ≤ j + f' → geLoop g n f j = geLoop g n f' j := by
  intro f
  induction f with
  | zero =>
    intro f' j h h'
    cases f' with
    | zero => rfl
    | succ f' => rw [geLoop, geLoop, if_neg (by omega)]
  | succ f ih =>
    intro f' j h h'
    by_cases h1 : j < n
    · cases f' with
      | zero => omega
      | succ f' =>
        have s1 := se_ge g n (j + 1)
        have g1 := geLoop_ge g n f' (j + 1)
        rw [geLoop, geLoop, if_pos h1, if_pos h1, ih f' (se g n (j + 1)) (by omega) (by omega), ih f' (j + 1) (by omega) (by omega), ih f' (geLoop g n f' (j + 1)) (by omega) (by omega)]
    · cases f' with
      | zero => rw [geLoop, geLoop, if_neg h1]
      | succ f' => rw [geLoop, geLoop, if_neg h1, if_neg h1]
theorem ge_ge (g : Nat → Int) (n j : Nat) : j ≤ ge g n j := geLoop_ge g n n j
theorem ge_le (g : Nat → Int) (n j : Nat) (h : j ≤ n + 1) : ge g n j ≤ n + 1 := geLoop_le g n n j h

set_option maxRecDepth 100000 in
set_option maxHeartbeats 1000000 in
theorem veGroupEnd_any (a : Option Addr) (n c : Nat) (Z : Nat → Int) (w : World) (hn : n ≤ 1048576) (ha0 : BytesAt w a n Z) :
    ∀ (k p : Nat), n ≤ p + k → p < n → Calls Try.prog 13 #[.slice a n c, .int .i64 p] w fun e w' => e = .returned (.int .i64 (ge Z n (p + 1) : Nat)) ∧ w' = w := by
  intro k
  induction k with
  | zero => intro p h1 h2; omega
  | succ k ih =>
    intro p hk hp
    have HI : Hid (∀ (p : Nat), n ≤ p + k → p < n → Calls Try.prog 13 #[.slice a n c, .int .i64 p] w fun e w' => e = .returned (.int .i64 (ge Z n (p + 1) : Nat)) ∧ w' = w) := ih
    have HA : Hid (BytesAt w a n Z) := ha0
    clear ih
    generalize hR : ge Z n (p + 1) = R
    have hR' : geLoop Z n n (p + 1) = R := hR
    clear hR
    clear ha0
    go_enter Try.func13, Try.ntmps13
    go_wp2
    go_loopw [5] (fun v wr => ∃ j f : Nat, n ≤ j + f ∧ p < j ∧ j ≤ n + 1 ∧ v = .int .i64 j ∧ geLoop Z n f j = R ∧ wr = w) (fun v _ => n + 2 - (intOf v).toNat)
    case atStart => exact ⟨p + 1, n, by omega, by omega, by omega, by go_num, hR', rfl⟩
    case round =>
      obtain ⟨j, f, hf, hpj, hj, rfl, hr, rfl⟩ := hrel
      clear hR'
      by_cases hlt : j < n
      · obtain ⟨x, o, rfl, hc⟩ := HA.out j hlt
        obtain ⟨f, rfl⟩ : ∃ f', f = f' + 1 := ⟨f - 1, by omega⟩
        rw [geLoop, if_pos hlt] at hr
        rcases kd_cases (Z j) with h | ⟨h0, m1, m2, m3, m4, m5, m6, m7, m8, m9, m10, m11⟩
        · rcases h with hv | hv | hv | hv | hv | hv | hv | hv | hv | hv | hv
          · have hk1 : kd (Z j) = 1 := by rw [hv]; rfl
            rw [if_pos hk1] at hr
            have hcall := veStringEnd_any (some ⟨x, o, none⟩) n c Z j wr (by omega) (by omega) HA.out
            have s1 := se_ge Z n (j + 1)
            have s2 := se_le Z n (j + 1) (by omega)
            generalize se Z n (j + 1) = s at hcall s1 s2 hr
            have HH : Hid (geLoop Z n f s = R) := hr
            rw [hv] at hc
            clear hk1 hr
            go_wp2_with (go_at_call 12; refine hcall.mono ?_; rintro e w2 ⟨rfl, rfl⟩)
            go_roundw
            case rel => exact ⟨s, f, by omega, by omega, by omega, rfl, HH.out, trivial⟩
            case measure => simp [intOf]; omega
          · have hk1 : kd (Z j) = 2 := by rw [hv]; rfl
            rw [if_neg (by rw [hk1]; decide), if_pos hk1] at hr
            have hcall := HI.out j (by omega) hlt
            have s1 := ge_ge Z n (j + 1)
            have s2 := ge_le Z n (j + 1) (by omega)
            have e1 : geLoop Z n f (j + 1) = ge Z n (j + 1) := geLoop_fuel Z n f n (j + 1) (by omega) (by omega)
            rw [e1] at hr
            clear e1
            generalize ge Z n (j + 1) = s at hcall s1 s2 hr
            have HH : Hid (geLoop Z n f s = R) := hr
            rw [hv] at hc
            clear hk1 hr
            go_wp2_with (go_at_call 13; refine hcall.mono ?_; rintro e w2 ⟨rfl, rfl⟩)
            go_roundw
            case rel => exact ⟨s, f, by omega, by omega, by omega, rfl, HH.out, trivial⟩
            case measure => simp [intOf]; omega
          · have hk1 : kd (Z j) = 2 := by rw [hv]; rfl
            rw [if_neg (by rw [hk1]; decide), if_pos hk1] at hr
            have hcall := HI.out j (by omega) hlt
            have s1 := ge_ge Z n (j + 1)
            have s2 := ge_le Z n (j + 1) (by omega)
            have e1 : geLoop Z n f (j + 1) = ge Z n (j + 1) := geLoop_fuel Z n f n (j + 1) (by omega) (by omega)
            rw [e1] at hr
            clear e1
            generalize ge Z n (j + 1) = s at hcall s1 s2 hr
            have HH : Hid (geLoop Z n f s = R) := hr
            rw [hv] at hc
            clear hk1 hr
            go_wp2_with (go_at_call 13; refine hcall.mono ?_; rintro e w2 ⟨rfl, rfl⟩)
            go_roundw
            case rel => exact ⟨s, f, by omega, by omega, by omega, rfl, HH.out, trivial⟩
            case measure => simp [intOf]; omega
          · have hk1 : kd (Z j) = 3 := by rw [hv]; rfl
            rw [if_neg (by rw [hk1]; decide), if_neg (by rw [hk1]; decide), if_pos hk1] at hr
            subst hr
            rw [hv] at hc
            clear hk1
            go_wp2
            go_ret
            exact ⟨by go_num, rfl⟩
          · have hk1 : kd (Z j) = 3 := by rw [hv]; rfl
            rw [if_neg (by rw [hk1]; decide), if_neg (by rw [hk1]; decide), if_pos hk1] at hr
            subst hr
            rw [hv] at hc
            clear hk1
            go_wp2
            go_ret
            exact ⟨by go_num, rfl⟩
          · have hk1 : kd (Z j) = 4 := by rw [hv]; rfl
            rw [if_neg (by rw [hk1]; decide), if_neg (by rw [hk1]; decide), if_neg (by rw [hk1]; decide)] at hr
            have HH : Hid (geLoop Z n f (j + 1) = R) := hr
            rw [hv] at hc
            clear hk1 hr
            go_wp2
            go_roundw
            case rel => exact ⟨j + 1, f, by omega, by omega, by omega, by go_num, HH.out, trivial⟩
            case measure => simp [intOf]; omega
          · have hk1 : kd (Z j) = 4 := by rw [hv]; rfl
            rw [if_neg (by rw [hk1]; decide), if_neg (by rw [hk1]; decide), if_neg (by rw [hk1]; decide)] at hr
            have HH : Hid (geLoop Z n f (j + 1) = R) := hr
            rw [hv] at hc
            clear hk1 hr
            go_wp2
            go_roundw
            case rel => exact ⟨j + 1, f, by omega, by omega, by omega, by go_num, HH.out, trivial⟩
            case measure => simp [intOf]; omega
          · have hk1 : kd (Z j) = 4 := by rw [hv]; rfl
            rw [if_neg (by rw [hk1]; decide), if_neg (by rw [hk1]; decide), if_neg (by rw [hk1]; decide)] at hr
            have HH : Hid (geLoop Z n f (j + 1) = R) := hr
            rw [hv] at hc
            clear hk1 hr
            go_wp2
            go_roundw
            case rel => exact ⟨j + 1, f, by omega, by omega, by omega, by go_num, HH.out, trivial⟩
            case measure => simp [intOf]; omega
          · have hk1 : kd (Z j) = 4 := by rw [hv]; rfl
            rw [if_neg (by rw [hk1]; decide), if_neg (by rw [hk1]; decide), if_neg (by rw [hk1]; decide)] at hr
            have HH : Hid (geLoop Z n f (j + 1) = R) := hr
            rw [hv] at hc
            clear hk1 hr
            go_wp2
            go_roundw
            case rel => exact ⟨j + 1, f, by omega, by omega, by omega, by go_num, HH.out, trivial⟩
            case measure => simp [intOf]; omega
          · have hk1 : kd (Z j) = 4 := by rw [hv]; rfl
            rw [if_neg (by rw [hk1]; decide), if_neg (by rw [hk1]; decide), if_neg (by rw [hk1]; decide)] at hr
            have HH : Hid (geLoop Z n f (j + 1) = R) := hr
            rw [hv] at hc
            clear hk1 hr
            go_wp2
            go_roundw
            case rel => exact ⟨j + 1, f, by omega, by omega, by omega, by go_num, HH.out, trivial⟩
            case measure => simp [intOf]; omega
          · have hk1 : kd (Z j) = 4 := by rw [hv]; rfl
            rw [if_neg (by rw [hk1]; decide), if_neg (by rw [hk1]; decide), if_neg (by rw [hk1]; decide)] at hr
            have HH : Hid (geLoop Z n f (j + 1) = R) := hr
            rw [hv] at hc
            clear hk1 hr
            go_wp2
            go_roundw
            case rel => exact ⟨j + 1, f, by omega, by omega, by omega, by go_num, HH.out, trivial⟩
            case measure => simp [intOf]; omega
        · rw [if_neg (by rw [h0]; decide), if_neg (by rw [h0]; decide), if_neg (by rw [h0]; decide)] at hr
          have e1 : (Z j == 34) = false := by simpa using m1
          have e2 : (Z j == 91) = false := by simpa using m2
          have e3 : (Z j == 123) = false := by simpa using m3
          have e4 : (Z j == 93) = false := by simpa using m4
          have e5 : (Z j == 125) = false := by simpa using m5
          have HH : Hid (geLoop Z n f (j + 1) = R) := hr
          clear hr h0
          go_wp2
          go_roundw
          case rel => exact ⟨j + 1, f, by omega, by omega, by omega, by go_num, HH.out, trivial⟩
          case measure => simp [intOf]; omega
      · have hR2 : R = j := by
          cases f with
          | zero => exact hr.symm
          | succ f => rw [geLoop, if_neg hlt] at hr; exact hr.symm
        subst hR2
        clear hr
        go_wp2
        go_ret
        exact ⟨rfl, rfl⟩

/-- The run of scalar bytes. -/
def scLoop (g : Nat → Int) (n : Nat) : Nat → Nat → Nat
  | 0, i => i
  | f + 1, i => if i < n then (if kd (g i) = 0 then scLoop g n f (i + 1) else i) else i
/-- What follows the run. -/
def afterRun (g : Nat → Int) (n p : Nat) : Nat :=
  if p < n then (if kd (g p) = 1 then se g n (p + 1) else if kd (g p) = 2 then ge g n (p + 1) else p) else p
/-- veModel. -/
def vm (g : Nat → Int) (n i : Nat) : Nat := afterRun g n (scLoop g n n i)
end Go.Proofs.Qxb6609087a

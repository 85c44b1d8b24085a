/- My own work on the program: valueEnd as a plain function. (Written by wip/tools/gen_v2.py.) -/
import Derived.Test.Qxb6609087aW1
namespace Go.Proofs.Qxb6609087a
open Go.RowKit
set_option linter.unusedVariables false
set_option linter.unusedSimpArgs false

/-- A byte's kind: 1 the quote, 2 an opener, 3 a closer, 4 a separator, 0 the rest. -/
def kd (c : Int) : Nat :=
  if c = 34 then 1 else if c = 91 then 2 else if c = 123 then 2 else if c = 93 then 3 else if c = 125 then 3
  else if c = 44 then 4 else if c = 58 then 4 else if c = 32 then 4 else if c = 9 then 4 else if c = 10 then 4 else if c = 13 then 4 else 0
theorem kd_cases (c : Int) : (c = 34 ∨ c = 91 ∨ c = 123 ∨ c = 93 ∨ c = 125 ∨ c = 44 ∨ c = 58 ∨ c = 32 ∨ c = 9 ∨ c = 10 ∨ c = 13) ∨
    (kd c = 0 ∧ c ≠ 34 ∧ c ≠ 91 ∧ c ≠ 123 ∧ c ≠ 93 ∧ c ≠ 125 ∧ c ≠ 44 ∧ c ≠ 58 ∧ c ≠ 32 ∧ c ≠ 9 ∧ c ≠ 10 ∧ c ≠ 13) := by
  by_cases h : (c = 34 ∨ c = 91 ∨ c = 123 ∨ c = 93 ∨ c = 125 ∨ c = 44 ∨ c = 58 ∨ c = 32 ∨ c = 9 ∨ c = 10 ∨ c = 13)
  · exact .inl h
  · simp only [not_or] at h
    refine .inr ⟨?_, h⟩
    simp [kd, h]

/-- valueEnd's loop at depth d, with fuel. -/
def veLoop (g : Nat → Int) (n : Nat) : Nat → Nat → Nat → Nat
  | 0, _, i => i
  | f + 1, d, i =>
    if i < n then
      if kd (g i) = 1 then (if d = 0 then se g n (i + 1) else veLoop g n f d (se g n (i + 1)))
      else if kd (g i) = 2 then veLoop g n f (d + 1) (i + 1)
      else if kd (g i) = 3 then (if d = 0 then i else if d = 1 then i + 1 else veLoop g n f (d - 1) (i + 1))
      else if kd (g i) = 4 then (if d = 0 then i else veLoop g n f d (i + 1))
      else veLoop g n f d (i + 1)
    else i
/-- Where the value that begins at i ends. -/
def ve (g : Nat → Int) (n i : Nat) : Nat := veLoop g n n 0 i

theorem se_ge (g : Nat → Int) (n j : Nat) : j ≤ se g n j := seLoop_ge g n n j
theorem se_le (g : Nat → Int) (n j : Nat) (h : j ≤ n + 1) : se g n j ≤ n + 1 := seLoop_le g n n j h

set_option maxRecDepth 100000 in
theorem valueEnd_past (a : Option Addr) (n c : Nat) (i : Nat) (w : World) (h : n ≤ i) (hi : i ≤ 9223372036854775807) :
    Calls Try.prog 10 #[.slice a n c, .int .i64 i] w fun e w' => e = .returned (.int .i64 i) ∧ w' = w := by
  have hlt : ¬ i < n := by omega
  go_enter Try.func10, Try.ntmps10
  go_wp2
  go_loopw [1, 5] (fun v d wr => v = .int .i64 i ∧ d = .int .i64 0 ∧ wr = w) (fun _ _ _ => 0)
  case atStart => exact ⟨rfl, rfl, rfl⟩
  case round =>
    obtain ⟨rfl, rfl, rfl⟩ := hrel
    go_wp2
    go_ret
    exact ⟨rfl, rfl⟩

set_option maxRecDepth 100000 in
set_option maxHeartbeats 1000000 in
theorem valueEnd_any (a : Option Addr) (n c : Nat) (Z : Nat → Int) (i0 : Nat) (w : World) (hn : n ≤ 1048576) (hi : i0 ≤ 1048577)
    (ha : BytesAt w a n Z) :
    Calls Try.prog 10 #[.slice a n c, .int .i64 i0] w fun e w' => e = .returned (.int .i64 (ve Z n i0 : Nat)) ∧ w' = w := by
  generalize hR : ve Z n i0 = R
  have hR' : veLoop Z n n 0 i0 = R := hR
  clear hR
  go_enter Try.func10, Try.ntmps10
  go_wp2
  go_loopw [1, 5] (fun v u wr => ∃ i d f : Nat, n ≤ i + f ∧ i ≤ 2000000 ∧ d ≤ i ∧ v = .int .i64 i ∧ u = .int .i64 d ∧ veLoop Z n f d i = R ∧ wr = w) (fun v _ _ => n + 2 - (intOf v).toNat)
  case atStart => exact ⟨i0, 0, n, by omega, by omega, by omega, rfl, rfl, hR', rfl⟩
  case round =>
    obtain ⟨i, d, f, hf, hj, hd, rfl, rfl, hr, rfl⟩ := hrel
    by_cases hlt : i < n
    · obtain ⟨x, o, rfl, hc⟩ := ha i hlt
      obtain ⟨f, rfl⟩ : ∃ f', f = f' + 1 := ⟨f - 1, by omega⟩
      rw [veLoop, if_pos hlt] at hr
      clear hR'
      rcases kd_cases (Z i) with h | ⟨h0, m1, m2, m3, m4, m5, m6, m7, m8, m9, m10, m11⟩
      · rcases h with hv | hv | hv | hv | hv | hv | hv | hv | hv | hv | hv
        · have hk : kd (Z i) = 1 := by rw [hv]; rfl
          rw [if_pos hk] at hr
          have hcall := stringEnd_any (some ⟨x, o, none⟩) n c Z i wr (by omega) (by omega) ha
          have s1 := se_ge Z n (i + 1)
          have s2 := se_le Z n (i + 1) (by omega)
          generalize se Z n (i + 1) = s at hcall s1 s2 hr
          rw [hv] at hc
          clear ha hk
          by_cases hd0 : d = 0
          · subst hd0
            simp only [if_true] at hr
            subst hr
            go_wp2_with (go_at_call 14; refine hcall.mono ?_; rintro e w2 ⟨rfl, rfl⟩)
            go_ret
            exact ⟨by go_num, rfl⟩
          · rw [if_neg hd0] at hr
            have nd : ((d : Int) == 0) = false := by simpa using hd0
            have HH : Hid (veLoop Z n f d s = R) := hr
            clear hr
            go_wp2_with (go_at_call 14; refine hcall.mono ?_; rintro e w2 ⟨rfl, rfl⟩)
            go_roundw
            case rel => exact ⟨s, d, f, by omega, by omega, by omega, by go_num, rfl, HH.out, trivial⟩
            case measure => simp [intOf]; omega
        · have hk : kd (Z i) = 2 := by rw [hv]; rfl
          rw [if_neg (by rw [hk]; decide), if_pos hk] at hr
          have nd : ((d : Int) + 1 == 0) = false := beq_false_of_ne (by omega)
          have HH : Hid (veLoop Z n f (d + 1) (i + 1) = R) := hr
          rw [hv] at hc
          clear ha hk hr
          go_wp2
          go_roundw
          case rel => exact ⟨i + 1, d + 1, f, by omega, by omega, by omega, by go_num, by go_num, HH.out, trivial⟩
          case measure => simp [intOf]; omega
        · have hk : kd (Z i) = 2 := by rw [hv]; rfl
          rw [if_neg (by rw [hk]; decide), if_pos hk] at hr
          have nd : ((d : Int) + 1 == 0) = false := beq_false_of_ne (by omega)
          have HH : Hid (veLoop Z n f (d + 1) (i + 1) = R) := hr
          rw [hv] at hc
          clear ha hk hr
          go_wp2
          go_roundw
          case rel => exact ⟨i + 1, d + 1, f, by omega, by omega, by omega, by go_num, by go_num, HH.out, trivial⟩
          case measure => simp [intOf]; omega
        · have hk : kd (Z i) = 3 := by rw [hv]; rfl
          rw [if_neg (by rw [hk]; decide), if_neg (by rw [hk]; decide), if_pos hk] at hr
          rw [hv] at hc
          clear ha hk
          by_cases hd0 : d = 0
          · subst hd0
            simp only [if_true] at hr
            subst hr
            go_wp2
            go_ret
            exact ⟨rfl, rfl⟩
          · by_cases hd1 : d = 1
            · subst hd1
              simp only [Nat.one_ne_zero, if_false, if_true] at hr
              subst hr
              go_wp2
              go_ret
              exact ⟨by go_num, rfl⟩
            · rw [if_neg hd0, if_neg hd1] at hr
              have nd : ((d : Int) == 0) = false := by simpa using hd0
              have nd1 : ((d : Int) - 1 == 0) = false := beq_false_of_ne (by omega)
              have HH : Hid (veLoop Z n f (d - 1) (i + 1) = R) := hr
              clear hr
              go_wp2
              go_roundw
              case rel => exact ⟨i + 1, d - 1, f, by omega, by omega, by omega, by go_num, by go_num, HH.out, trivial⟩
              case measure => simp [intOf]; omega
        · have hk : kd (Z i) = 3 := by rw [hv]; rfl
          rw [if_neg (by rw [hk]; decide), if_neg (by rw [hk]; decide), if_pos hk] at hr
          rw [hv] at hc
          clear ha hk
          by_cases hd0 : d = 0
          · subst hd0
            simp only [if_true] at hr
            subst hr
            go_wp2
            go_ret
            exact ⟨rfl, rfl⟩
          · by_cases hd1 : d = 1
            · subst hd1
              simp only [Nat.one_ne_zero, if_false, if_true] at hr
              subst hr
              go_wp2
              go_ret
              exact ⟨by go_num, rfl⟩
            · rw [if_neg hd0, if_neg hd1] at hr
              have nd : ((d : Int) == 0) = false := by simpa using hd0
              have nd1 : ((d : Int) - 1 == 0) = false := beq_false_of_ne (by omega)
              have HH : Hid (veLoop Z n f (d - 1) (i + 1) = R) := hr
              clear hr
              go_wp2
              go_roundw
              case rel => exact ⟨i + 1, d - 1, f, by omega, by omega, by omega, by go_num, by go_num, HH.out, trivial⟩
              case measure => simp [intOf]; omega
        · have hk : kd (Z i) = 4 := by rw [hv]; rfl
          rw [if_neg (by rw [hk]; decide), if_neg (by rw [hk]; decide), if_neg (by rw [hk]; decide), if_pos hk] at hr
          rw [hv] at hc
          clear ha hk
          by_cases hd0 : d = 0
          · subst hd0
            simp only [if_true] at hr
            subst hr
            go_wp2
            go_ret
            exact ⟨rfl, rfl⟩
          · rw [if_neg hd0] at hr
            have nd : ((d : Int) == 0) = false := by simpa using hd0
            have HH : Hid (veLoop Z n f d (i + 1) = R) := hr
            clear hr
            go_wp2
            go_roundw
            case rel => exact ⟨i + 1, d, f, by omega, by omega, by omega, by go_num, rfl, HH.out, trivial⟩
            case measure => simp [intOf]; omega
        · have hk : kd (Z i) = 4 := by rw [hv]; rfl
          rw [if_neg (by rw [hk]; decide), if_neg (by rw [hk]; decide), if_neg (by rw [hk]; decide), if_pos hk] at hr
          rw [hv] at hc
          clear ha hk
          by_cases hd0 : d = 0
          · subst hd0
            simp only [if_true] at hr
            subst hr
            go_wp2
            go_ret
            exact ⟨rfl, rfl⟩
          · rw [if_neg hd0] at hr
            have nd : ((d : Int) == 0) = false := by simpa using hd0
            have HH : Hid (veLoop Z n f d (i + 1) = R) := hr
            clear hr
            go_wp2
            go_roundw
            case rel => exact ⟨i + 1, d, f, by omega, by omega, by omega, by go_num, rfl, HH.out, trivial⟩
            case measure => simp [intOf]; omega
        · have hk : kd (Z i) = 4 := by rw [hv]; rfl
          rw [if_neg (by rw [hk]; decide), if_neg (by rw [hk]; decide), if_neg (by rw [hk]; decide), if_pos hk] at hr
          rw [hv] at hc
          clear ha hk
          by_cases hd0 : d = 0
          · subst hd0
            simp only [if_true] at hr
            subst hr
            go_wp2
            go_ret
            exact ⟨rfl, rfl⟩
          · rw [if_neg hd0] at hr
            have nd : ((d : Int) == 0) = false := by simpa using hd0
            have HH : Hid (veLoop Z n f d (i + 1) = R) := hr
            clear hr
            go_wp2
            go_roundw
            case rel => exact ⟨i + 1, d, f, by omega, by omega, by omega, by go_num, rfl, HH.out, trivial⟩
            case measure => simp [intOf]; omega
        · have hk : kd (Z i) = 4 := by rw [hv]; rfl
          rw [if_neg (by rw [hk]; decide), if_neg (by rw [hk]; decide), if_neg (by rw [hk]; decide), if_pos hk] at hr
          rw [hv] at hc
          clear ha hk
          by_cases hd0 : d = 0
          · subst hd0
            simp only [if_true] at hr
            subst hr
            go_wp2
            go_ret
            exact ⟨rfl, rfl⟩
          · rw [if_neg hd0] at hr
            have nd : ((d : Int) == 0) = false := by simpa using hd0
            have HH : Hid (veLoop Z n f d (i + 1) = R) := hr
            clear hr
            go_wp2
            go_roundw
            case rel => exact ⟨i + 1, d, f, by omega, by omega, by omega, by go_num, rfl, HH.out, trivial⟩
            case measure => simp [intOf]; omega
        · have hk : kd (Z i) = 4 := by rw [hv]; rfl
          rw [if_neg (by rw [hk]; decide), if_neg (by rw [hk]; decide), if_neg (by rw [hk]; decide), if_pos hk] at hr
          rw [hv] at hc
          clear ha hk
          by_cases hd0 : d = 0
          · subst hd0
            simp only [if_true] at hr
            subst hr
            go_wp2
            go_ret
            exact ⟨rfl, rfl⟩
          · rw [if_neg hd0] at hr
            have nd : ((d : Int) == 0) = false := by simpa using hd0
            have HH : Hid (veLoop Z n f d (i + 1) = R) := hr
            clear hr
            go_wp2
            go_roundw
            case rel => exact ⟨i + 1, d, f, by omega, by omega, by omega, by go_num, rfl, HH.out, trivial⟩
            case measure => simp [intOf]; omega
        · have hk : kd (Z i) = 4 := by rw [hv]; rfl
          rw [if_neg (by rw [hk]; decide), if_neg (by rw [hk]; decide), if_neg (by rw [hk]; decide), if_pos hk] at hr
          rw [hv] at hc
          clear ha hk
          by_cases hd0 : d = 0
          · subst hd0
            simp only [if_true] at hr
            subst hr
            go_wp2
            go_ret
            exact ⟨rfl, rfl⟩
          · rw [if_neg hd0] at hr
            have nd : ((d : Int) == 0) = false := by simpa using hd0
            have HH : Hid (veLoop Z n f d (i + 1) = R) := hr
            clear hr
            go_wp2
            go_roundw
            case rel => exact ⟨i + 1, d, f, by omega, by omega, by omega, by go_num, rfl, HH.out, trivial⟩
            case measure => simp [intOf]; omega
      · rw [if_neg (by rw [h0]; decide), if_neg (by rw [h0]; decide), if_neg (by rw [h0]; decide), if_neg (by rw [h0]; decide)] at hr
        have e1 : (Z i == 34) = false := by simpa using m1
        have e2 : (Z i == 91) = false := by simpa using m2
        have e3 : (Z i == 123) = false := by simpa using m3
        have e4 : (Z i == 93) = false := by simpa using m4
        have e5 : (Z i == 125) = false := by simpa using m5
        have e6 : (Z i == 44) = false := by simpa using m6
        have e7 : (Z i == 58) = false := by simpa using m7
        have e8 : (Z i == 32) = false := by simpa using m8
        have e9 : (Z i == 9) = false := by simpa using m9
        have e10 : (Z i == 10) = false := by simpa using m10
        have e11 : (Z i == 13) = false := by simpa using m11
        have HH : Hid (veLoop Z n f d (i + 1) = R) := hr
        clear ha hr h0
        go_wp2
        go_roundw
        case rel => exact ⟨i + 1, d, f, by omega, by omega, by omega, by go_num, rfl, HH.out, trivial⟩
        case measure => simp [intOf]; omega
    · have hR2 : R = i := by
        cases f with
        | zero => exact hr.symm
        | succ f => rw [veLoop, if_neg hlt] at hr; exact hr.symm
      subst hR2
      clear ha hr hR'
      go_wp2
      go_ret
      exact ⟨rfl, rfl⟩

theorem zzValueEnd_any (a : Option Addr) (n c : Nat) (Z : Nat → Int) (i0 : Nat) (w : World) (hn : n ≤ 1048576) (hi : i0 ≤ 1048577)
    (ha : BytesAt w a n Z) :
    Calls Try.prog 6 #[.slice a n c, .int .i64 i0] w fun e w' => e = .returned (.int .i64 (ve Z n i0 : Nat)) ∧ w' = w := by
  have hcall := valueEnd_any a n c Z i0 w hn hi ha
  clear ha
  go_enter Try.func6, Try.ntmps6
  go_wp2_with (go_at_call 10; refine hcall.mono ?_; rintro e w2 ⟨rfl, rfl⟩)
  go_ret
  exact ⟨rfl, rfl⟩
theorem zzValueEnd_past (a : Option Addr) (n c : Nat) (i : Nat) (w : World) (h : n ≤ i) (hi : i ≤ 9223372036854775807) :
    Calls Try.prog 6 #[.slice a n c, .int .i64 i] w fun e w' => e = .returned (.int .i64 i) ∧ w' = w := by
  have hcall := valueEnd_past a n c i w h hi
  clear h
  go_enter Try.func6, Try.ntmps6
  go_wp2_with (go_at_call 10; refine hcall.mono ?_; rintro e w2 ⟨rfl, rfl⟩)
  go_ret
  exact ⟨rfl, rfl⟩
end Go.Proofs.Qxb6609087a

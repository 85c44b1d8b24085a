/- My own work on the program: the plain laws of valueEnd: it is local. -/
import Derived.Test.Qxb6609087aW3
namespace Go.Proofs.Qxb6609087a
open Go.RowKit
set_option linter.unusedVariables false

theorem seLoop_shift (g h : Nat → Int) (m n : Nat) (e : ∀ j, h (m + j) = g j) : ∀ f j, seLoop h (m + n) f (m + j) = m + seLoop g n f j := by
  intro f
  induction f with
  | zero => intro j; rfl
  | succ f ih =>
    intro j
    rw [seLoop, seLoop, e j]
    by_cases h1 : j < n
    · rw [if_pos h1, if_pos (by omega), show m + j + 2 = m + (j + 2) from by omega, show m + j + 1 = m + (j + 1) from by omega, ih, ih]
      by_cases h2 : g j = 92
      · rw [if_pos h2, if_pos h2]
      · rw [if_neg h2, if_neg h2]
        by_cases h3 : g j = 34
        · rw [if_pos h3, if_pos h3]
        · rw [if_neg h3, if_neg h3]
    · rw [if_neg h1, if_neg (by omega)]
theorem se_shift (g h : Nat → Int) (m n : Nat) (e : ∀ j, h (m + j) = g j) (j : Nat) : se h (m + n) (m + j) = m + se g n j := by
  unfold se
  rw [seLoop_fuel h (m + n) (m + n) n (m + j) (by omega) (by omega), seLoop_shift g h m n e]

theorem veLoop_fuel (g : Nat → Int) (n : Nat) : ∀ f f' d j, n ≤ j + f → n ≤ j + f' → veLoop g n f d j = veLoop g n f' d j := by
  intro f
  induction f with
  | zero =>
    intro f' d j h h'
    cases f' with
    | zero => rfl
    | succ f' => rw [veLoop, veLoop, if_neg (by omega)]
  | succ f ih =>
    intro f' d j h h'
    by_cases h1 : j < n
    · cases f' with
      | zero => omega
      | succ f' =>
        have s1 := se_ge g n (j + 1)
        rw [veLoop, veLoop, if_pos h1, if_pos h1, ih f' d (se g n (j + 1)) (by omega) (by omega), ih f' (d + 1) (j + 1) (by omega) (by omega), ih f' (d - 1) (j + 1) (by omega) (by omega), ih f' d (j + 1) (by omega) (by omega)]
    · cases f' with
      | zero => rw [veLoop, veLoop, if_neg h1]
      | succ f' => rw [veLoop, veLoop, if_neg h1, if_neg h1]

theorem if_add {c : Prop} [Decidable c] (m a b : Nat) : (if c then m + a else m + b) = m + (if c then a else b) := by
  by_cases h : c <;> simp [h]

theorem veLoop_shift (g h : Nat → Int) (m n : Nat) (e : ∀ j, h (m + j) = g j) : ∀ f d j, veLoop h (m + n) f d (m + j) = m + veLoop g n f d j := by
  intro f
  induction f with
  | zero => intro d j; rfl
  | succ f ih =>
    intro d j
    rw [veLoop, veLoop, e j]
    by_cases h1 : j < n
    · rw [if_pos h1, if_pos (show m + j < m + n by omega), show m + j + 1 = m + (j + 1) from by omega, se_shift g h m n e, ih, ih, ih, ih]
      simp only [if_add]
    · rw [if_neg h1, if_neg (by omega)]
theorem ve_shift (g h : Nat → Int) (m n : Nat) (e : ∀ j, h (m + j) = g j) (j : Nat) : ve h (m + n) (m + j) = m + ve g n j := by
  unfold ve
  rw [veLoop_fuel h (m + n) (m + n) n 0 (m + j) (by omega) (by omega), veLoop_shift g h m n e]

theorem veLoop_ge (g : Nat → Int) (n : Nat) : ∀ f d j, j ≤ veLoop g n f d j := by
  intro f
  induction f with
  | zero => intro d j; exact Nat.le_refl _
  | succ f ih =>
    intro d j
    rw [veLoop]
    by_cases h1 : j < n
    · rw [if_pos h1]
      have s1 := se_ge g n (j + 1)
      have i1 := ih d (se g n (j + 1))
      have i2 := ih (d + 1) (j + 1)
      have i3 := ih (d - 1) (j + 1)
      have i4 := ih d (j + 1)
      by_cases k1 : kd (g j) = 1
      · rw [if_pos k1]
        by_cases h0 : d = 0
        · rw [if_pos h0]; omega
        · rw [if_neg h0]; omega
      rw [if_neg k1]
      by_cases k2 : kd (g j) = 2
      · rw [if_pos k2]; omega
      rw [if_neg k2]
      by_cases k3 : kd (g j) = 3
      · rw [if_pos k3]
        by_cases h0 : d = 0
        · rw [if_pos h0]; exact Nat.le_refl _
        · rw [if_neg h0]
          by_cases h1 : d = 1
          · rw [if_pos h1]; omega
          · rw [if_neg h1]; omega
      rw [if_neg k3]
      by_cases k4 : kd (g j) = 4
      · rw [if_pos k4]
        by_cases h0 : d = 0
        · rw [if_pos h0]; exact Nat.le_refl _
        · rw [if_neg h0]; omega
      rw [if_neg k4]
      omega
    · rw [if_neg h1]; exact Nat.le_refl _

theorem seLoop_tail (g h : Nat → Int) (n N : Nat) (hN : n ≤ N) (e : ∀ j, j < n → h j = g j) : ∀ f j, n ≤ j + f → seLoop g n f j < n → ∀ f', N ≤ j + f' → seLoop h N f' j = seLoop g n f j := by
  intro f
  induction f with
  | zero => intro j hf hr; simp only [seLoop] at hr; omega
  | succ f ih =>
    intro j hf hr f' hf'
    by_cases h1 : j < n
    · cases f' with
      | zero => omega
      | succ f' =>
        rw [seLoop, if_pos h1] at hr
        rw [seLoop, seLoop, if_pos h1, if_pos (show j < N by omega), e j h1]
        by_cases h2 : g j = 92
        · rw [if_pos h2] at hr
          rw [if_pos h2, if_pos h2]
          exact ih (j + 2) (by omega) hr f' (by omega)
        · rw [if_neg h2] at hr
          rw [if_neg h2, if_neg h2]
          by_cases h3 : g j = 34
          · rw [if_pos h3, if_pos h3]
          · rw [if_neg h3] at hr
            rw [if_neg h3, if_neg h3]
            exact ih (j + 1) (by omega) hr f' (by omega)
    · rw [seLoop, if_neg h1] at hr
      omega
theorem se_tail (g h : Nat → Int) (n N : Nat) (hN : n ≤ N) (e : ∀ j, j < n → h j = g j) (j : Nat) (hr : se g n j < n) : se h N j = se g n j :=
  seLoop_tail g h n N hN e n j (by omega) hr N (by omega)

theorem veLoop_tail (g h : Nat → Int) (n N : Nat) (hN : n ≤ N) (e : ∀ j, j < n → h j = g j) : ∀ f d j, n ≤ j + f → veLoop g n f d j < n → ∀ f', N ≤ j + f' → veLoop h N f' d j = veLoop g n f d j := by
  intro f
  induction f with
  | zero => intro d j hf hr; simp only [veLoop] at hr; omega
  | succ f ih =>
    intro d j hf hr f' hf'
    by_cases h1 : j < n
    · cases f' with
      | zero => omega
      | succ f' =>
        have s1 := se_ge g n (j + 1)
        rw [veLoop, if_pos h1] at hr
        rw [veLoop, veLoop, if_pos h1, if_pos (show j < N by omega), e j h1]
        by_cases k1 : kd (g j) = 1
        · rw [if_pos k1] at hr
          rw [if_pos k1, if_pos k1]
          by_cases h0 : d = 0
          · rw [if_pos h0] at hr
            rw [if_pos h0, if_pos h0]
            exact se_tail g h n N hN e _ hr
          · rw [if_neg h0] at hr
            have i1 := veLoop_ge g n f d (se g n (j + 1))
            rw [if_neg h0, if_neg h0, se_tail g h n N hN e _ (by omega)]
            exact ih d _ (by omega) hr f' (by omega)
        rw [if_neg k1] at hr
        rw [if_neg k1, if_neg k1]
        by_cases k2 : kd (g j) = 2
        · rw [if_pos k2] at hr
          rw [if_pos k2, if_pos k2]
          exact ih _ _ (by omega) hr f' (by omega)
        rw [if_neg k2] at hr
        rw [if_neg k2, if_neg k2]
        by_cases k3 : kd (g j) = 3
        · rw [if_pos k3] at hr
          rw [if_pos k3, if_pos k3]
          by_cases h0 : d = 0
          · rw [if_pos h0, if_pos h0]
          · rw [if_neg h0] at hr
            rw [if_neg h0, if_neg h0]
            by_cases h2 : d = 1
            · rw [if_pos h2, if_pos h2]
            · rw [if_neg h2] at hr
              rw [if_neg h2, if_neg h2]
              exact ih _ _ (by omega) hr f' (by omega)
        rw [if_neg k3] at hr
        rw [if_neg k3, if_neg k3]
        by_cases k4 : kd (g j) = 4
        · rw [if_pos k4] at hr
          rw [if_pos k4, if_pos k4]
          by_cases h0 : d = 0
          · rw [if_pos h0, if_pos h0]
          · rw [if_neg h0] at hr
            rw [if_neg h0, if_neg h0]
            exact ih _ _ (by omega) hr f' (by omega)
        rw [if_neg k4] at hr
        rw [if_neg k4, if_neg k4]
        exact ih _ _ (by omega) hr f' (by omega)
    · rw [veLoop, if_neg h1] at hr
      omega
theorem ve_tail (g h : Nat → Int) (n N : Nat) (hN : n ≤ N) (e : ∀ j, j < n → h j = g j) (j : Nat) (hr : ve g n j < n) : ve h N j = ve g n j :=
  veLoop_tail g h n N hN e n 0 j (by omega) hr N (by omega)

theorem kd_stops (c : Int) (h : stops c = false) : kd c = 0 ∨ kd c = 1 ∨ kd c = 2 := by
  rcases kd_cases c with hh | ⟨h0, _⟩
  · rcases hh with rfl | rfl | rfl | rfl | rfl | rfl | rfl | rfl | rfl | rfl | rfl <;> first | exact .inr (.inl rfl) | exact .inr (.inr rfl) | (exact absurd h (by decide))
  · exact .inl h0
theorem ve_pos (g : Nat → Int) (n i : Nat) (h : i < n) (hs : stops (g i) = false) : i < ve g n i := by
  unfold ve
  obtain ⟨f, rfl⟩ : ∃ f, n = f + 1 := ⟨n - 1, by omega⟩
  generalize hN : f + 1 = N at h
  rw [← hN, veLoop, hN, if_pos h]
  have s1 := se_ge g N (i + 1)
  rcases kd_stops _ hs with k | k | k
  · rw [if_neg (by omega), if_neg (by omega), if_neg (by omega), if_neg (by omega)]
    have := veLoop_ge g N f 0 (i + 1)
    omega
  · rw [if_pos k, if_pos rfl]; omega
  · rw [if_neg (by omega), if_pos k]
    have := veLoop_ge g N f (0 + 1) (i + 1)
    omega
theorem ve_le (g : Nat → Int) (n : Nat) : ∀ f d j, j ≤ n + 1 → veLoop g n f d j ≤ n + 1 := by
  intro f
  induction f with
  | zero => intro d j h; exact h
  | succ f ih =>
    intro d j h
    rw [veLoop]
    by_cases h1 : j < n
    · rw [if_pos h1]
      have s1 := se_le g n (j + 1) (by omega)
      have i1 := ih d (se g n (j + 1)) s1
      have i2 := ih (d + 1) (j + 1) (by omega)
      have i3 := ih (d - 1) (j + 1) (by omega)
      have i4 := ih d (j + 1) (by omega)
      repeat' split
      all_goals omega
    · rw [if_neg h1]; exact h
end Go.Proofs.Qxb6609087a

import Derived.Test.Qxb6608660aW10
namespace Go.Proofs.Qxb6608660a
open Go.RowKit

/-! ### The plain law of ranks: no Go in sight -/

def mark (tk : Nat → Bool) (q : Nat) : Nat → Bool := fun j => if j = q then true else tk j

theorem cnt_mark {tk : Nat → Bool} {q : Nat} (hq : tk q = false) (x : Nat) : cnt (mark tk q) x + (if q < x then 1 else 0) = cnt tk x := by
  induction x with
  | zero => simp [cnt]
  | succ x ih =>
    by_cases e : x = q
    · have h1 : mark tk q x = true := by simp [mark, e]
      have h2 : tk x = false := by rw [e]; exact hq
      simp only [cnt, h1, h2]
      rw [if_neg (show ¬ q < x by omega)] at ih
      rw [if_pos (show q < x + 1 by omega)]
      simp
      omega
    · have h1 : mark tk q x = tk x := by simp [mark, e]
      simp only [cnt, h1]
      by_cases e2 : q < x
      · rw [if_pos e2] at ih; rw [if_pos (show q < x + 1 by omega)]; omega
      · rw [if_neg e2] at ih; rw [if_neg (show ¬ q < x + 1 by omega)]; omega

theorem cnt_lt {tk : Nat → Bool} {a b : Nat} (h : cnt tk a < cnt tk b) : a < b := by
  rcases Nat.lt_or_ge a b with h1 | h1
  · exact h1
  · have := cnt_mono tk h1; omega

theorem cnt_succ_free {tk : Nat → Bool} {a : Nat} (h : tk a = false) : cnt tk (a + 1) = cnt tk a + 1 := by simp [cnt, h]

theorem cnt_inj {tk : Nat → Bool} {a b : Nat} (ha : tk a = false) (hb : tk b = false) (h : cnt tk a = cnt tk b) : a = b := by
  rcases Nat.lt_trichotomy a b with h1 | h1 | h1
  · have := cnt_mono tk (show a + 1 ≤ b from h1); rw [cnt_succ_free ha] at this; omega
  · exact h1
  · have := cnt_mono tk (show b + 1 ≤ a from h1); rw [cnt_succ_free hb] at this; omega

theorem cnt_none (x : Nat) : cnt (fun _ => false) x = x := by
  induction x with
  | zero => rfl
  | succ x ih => simp [cnt, ih]

/-- The slots p .. p + len - 1 hold, in order, the places that are not taken. -/
structure RankInv (n : Nat) (tk : Nat → Bool) (p len : Nat) (arr : Nat → Nat) : Prop where
  lt : ∀ j, j < len → arr (p + j) < n
  free : ∀ j, j < len → tk (arr (p + j)) = false
  rank : ∀ j, j < len → cnt tk (arr (p + j)) = j
  all : cnt tk n = len

theorem RankInv.start (n : Nat) : RankInv n (fun _ => false) 0 n id := ⟨fun j hj => by simpa using hj, fun _ _ => rfl, fun j _ => by simpa using cnt_none j, cnt_none n⟩

theorem RankInv.step {n : Nat} {tk : Nat → Bool} {p len : Nat} {arr : Nat → Nat} (h : RankInv n tk p len arr) {i : Nat} (hi : i < len) :
    RankInv n (mark tk (arr (p + i))) (if i = 0 then p + 1 else p) (len - 1) (shift arr p i len) := by
  have hq := h.free i hi
  have key : ∀ j, j < len - 1 → shift arr p i len ((if i = 0 then p + 1 else p) + j) = arr (p + (if j < i then j else j + 1)) := by
    intro j hj
    unfold shift
    by_cases e : i = 0
    · subst e
      simp only [if_true, Nat.lt_irrefl, false_and, if_false, Nat.not_lt_zero]
      congr 1; omega
    · rw [if_neg e]
      by_cases e2 : j < i
      · rw [if_neg (by omega), if_pos e2]
      · rw [if_pos (by omega), if_neg e2]; rfl
  have hj' : ∀ j, j < len - 1 → (if j < i then j else j + 1) < len := by intro j hj; split <;> omega
  have hne : ∀ j, j < len - 1 → arr (p + (if j < i then j else j + 1)) ≠ arr (p + i) := by
    intro j hj e
    have h1 := h.rank _ (hj' j hj)
    rw [e, h.rank i hi] at h1
    split at h1 <;> omega
  refine ⟨fun j hj => ?_, fun j hj => ?_, fun j hj => ?_, ?_⟩
  · rw [key j hj]; exact h.lt _ (hj' j hj)
  · rw [key j hj]; unfold mark; rw [if_neg (hne j hj)]; exact h.free _ (hj' j hj)
  · rw [key j hj]
    have h1 := cnt_mark hq (arr (p + (if j < i then j else j + 1)))
    have h2 := h.rank _ (hj' j hj)
    have h3 := h.rank i hi
    by_cases e : j < i
    · rw [if_pos e] at h1 h2 ⊢
      have : arr (p + j) < arr (p + i) := cnt_lt (tk := tk) (by omega)
      rw [if_neg (by omega)] at h1
      omega
    · rw [if_neg e] at h1 h2 ⊢
      have : arr (p + i) < arr (p + (j + 1)) := cnt_lt (tk := tk) (by omega)
      rw [if_pos this] at h1
      omega
  · have h1 := cnt_mark hq n
    rw [if_pos (h.lt i hi), h.all] at h1
    omega

/-- A place that is not taken stands where its rank says. -/
theorem RankInv.find {n : Nat} {tk : Nat → Bool} {p len : Nat} {arr : Nat → Nat} (h : RankInv n tk p len arr) {q : Nat} (hq : q < n) (hf : tk q = false) : cnt tk q < len ∧ arr (p + cnt tk q) = q := by
  have h1 := cnt_mono tk (show q + 1 ≤ n from hq)
  rw [cnt_succ_free hf, h.all] at h1
  exact ⟨by omega, cnt_inj (h.free _ (by omega)) hf (h.rank _ (by omega))⟩

/-- What lies ahead of the first slot stays. -/
theorem shift_pre (arr : Nat → Nat) (p i len s : Nat) (h : s < (if i = 0 then p + 1 else p)) : shift arr p i len s = arr s := by
  unfold shift
  rw [if_neg]
  split at h <;> omega

end Go.Proofs.Qxb6608660a

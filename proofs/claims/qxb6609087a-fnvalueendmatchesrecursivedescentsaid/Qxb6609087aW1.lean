/- My own work on the program: stringEnd and valueEnd as plain functions. -/
import Derived.Test.Qxb6609087aProg
import Derived.WalkKit
import Derived.Deep.OwnRows
import Derived.Below
import Derived.Handy
namespace Go.Proofs.Qxb6609087a
open Go.RowKit
set_option linter.unusedVariables false
set_option linter.unusedSimpArgs false

/-- The first n cells at the address are the bytes Z. -/
def BytesAt (w : World) (a : Option Addr) (n : Nat) (Z : Nat → Int) : Prop :=
  ∀ i, i < n → ∃ x o, a = some ⟨x, o, none⟩ ∧ w.cell? ⟨x, o + i, none⟩ = some (.int .u8 (Z i))

theorem BytesAt.below {B : Nat} {w w' : World} {a : Option Addr} {n : Nat} {Z : Nat → Int} (h : BytesAt w a n Z) (hb : Below B w w') (hB : w.heap.size ≤ B) : BytesAt w' a n Z := by
  intro i hi
  obtain ⟨x, o, e, hc⟩ := h i hi
  have := World.block_lt_of_cell? w _ hc
  exact ⟨x, o, e, (hb.cell (by simp at this ⊢; omega)).trans hc⟩

/-- stringEnd's loop, with fuel. -/
def seLoop (g : Nat → Int) (n : Nat) : Nat → Nat → Nat
  | 0, j => j
  | f + 1, j => if j < n then (if g j = 92 then seLoop g n f (j + 2) else if g j = 34 then j + 1 else seLoop g n f (j + 1)) else j
/-- Where the string whose bytes begin at j ends. -/
def se (g : Nat → Int) (n j : Nat) : Nat := seLoop g n n j

theorem seLoop_le (g : Nat → Int) (n : Nat) : ∀ f j, j ≤ n + 1 → seLoop g n f j ≤ n + 1 := by
  intro f
  induction f with
  | zero => intro j h; exact h
  | succ f ih =>
    intro j h
    rw [seLoop]
    by_cases h1 : j < n
    · rw [if_pos h1]
      by_cases h2 : g j = 92
      · rw [if_pos h2]; exact ih _ (by omega)
      · rw [if_neg h2]
        by_cases h3 : g j = 34
        · rw [if_pos h3]; omega
        · rw [if_neg h3]; exact ih _ (by omega)
    · rw [if_neg h1]; exact h
theorem seLoop_ge (g : Nat → Int) (n : Nat) : ∀ f j, j ≤ seLoop g n f j := by
  intro f
  induction f with
  | zero => intro j; exact Nat.le_refl _
  | succ f ih =>
    intro j
    rw [seLoop]
    by_cases h1 : j < n
    · rw [if_pos h1]
      by_cases h2 : g j = 92
      · rw [if_pos h2]; have := ih (j + 2); omega
      · rw [if_neg h2]
        by_cases h3 : g j = 34
        · rw [if_pos h3]; omega
        · rw [if_neg h3]; have := ih (j + 1); omega
    · rw [if_neg h1]; exact Nat.le_refl _
theorem seLoop_fuel (g : Nat → Int) (n : Nat) : ∀ f f' j, n ≤ j + f → n ≤ j + f' → seLoop g n f j = seLoop g n f' j := by
  intro f
  induction f with
  | zero =>
    intro f' j h h'
    cases f' with
    | zero => rfl
    | succ f' => rw [seLoop, seLoop, if_neg (by omega)]
  | succ f ih =>
    intro f' j h h'
    by_cases h1 : j < n
    · cases f' with
      | zero => omega
      | succ f' =>
        rw [seLoop, seLoop, if_pos h1, if_pos h1, ih f' (j + 2) (by omega) (by omega), ih f' (j + 1) (by omega) (by omega)]
    · cases f' with
      | zero => rw [seLoop, seLoop, if_neg h1]
      | succ f' => rw [seLoop, seLoop, if_neg h1, if_neg h1]

set_option maxRecDepth 100000 in
theorem stringEnd_any (a : Option Addr) (n c : Nat) (Z : Nat → Int) (i : Nat) (w : World) (hn : n ≤ 2097152) (hi : i ≤ 2097152)
    (ha : BytesAt w a n Z) :
    Calls Try.prog 14 #[.slice a n c, .int .i64 i] w fun e w' => e = .returned (.int .i64 (se Z n (i + 1) : Nat)) ∧ w' = w := by
  generalize hR : se Z n (i + 1) = R
  have hR' : seLoop Z n n (i + 1) = R := hR
  clear hR
  go_enter Try.func14, Try.ntmps14
  go_wp2
  go_loopw [1] (fun v wr => ∃ j f : Nat, n ≤ j + f ∧ j ≤ 3000000 ∧ v = .int .i64 j ∧ seLoop Z n f j = R ∧ wr = w) (fun v _ => n + 2 - (intOf v).toNat)
  case atStart => exact ⟨i + 1, n, by omega, by omega, by go_num, hR', rfl⟩
  case round =>
    obtain ⟨j, f, hf, hj, rfl, hr, rfl⟩ := hrel
    by_cases hlt : j < n
    · obtain ⟨x, o, rfl, hc⟩ := ha j hlt
      obtain ⟨f, rfl⟩ : ∃ f', f = f' + 1 := ⟨f - 1, by omega⟩
      rw [seLoop, if_pos hlt] at hr
      by_cases h92 : Z j = 92
      · rw [if_pos h92] at hr
        have HH : Hid (seLoop Z n f (j + 2) = R) := hr
        clear ha hr hR'
        rw [h92] at hc
        go_wp2
        go_roundw
        case rel => exact ⟨j + 2, f, by omega, by omega, by go_num, HH.out, trivial⟩
        case measure => simp [intOf]; omega
      · rw [if_neg h92] at hr
        have n92 : (Z j == 92) = false := by simpa using h92
        by_cases h34 : Z j = 34
        · rw [if_pos h34] at hr
          subst hr
          clear ha hR'
          rw [h34] at hc
          go_wp2
          go_ret
          exact ⟨by go_num, rfl⟩
        · rw [if_neg h34] at hr
          have n34 : (Z j == 34) = false := by simpa using h34
          have HH : Hid (seLoop Z n f (j + 1) = R) := hr
          clear ha hr hR'
          go_wp2
          go_roundw
          case rel => exact ⟨j + 1, f, by omega, by omega, by go_num, HH.out, trivial⟩
          case measure => simp [intOf]; omega
    · have hR2 : R = j := by
        cases f with
        | zero => exact hr.symm
        | succ f => rw [seLoop, if_neg hlt] at hr; exact hr.symm
      subst hR2
      clear ha hr hR'
      go_wp2
      go_ret
      exact ⟨rfl, rfl⟩
end Go.Proofs.Qxb6609087a

/- My own work on the program: the walks of Range, zzsb1InWidth and the law. -/
import Derived.Test.Qxb6613731aDoorProg
import Derived.WalkKit
namespace Go.Proofs.Qxb6613731aDoor
open Go.RowKit

theorem range_int (w : World) (h : w.cell? ⟨0, 1, none⟩ = some (.int .i64 32)) :
    Calls Tryd.prog 4 #[.int .u8 0] w fun e w' => e = .returned (.tuple #[.int .i64 (-2147483648), .int .i64 2147483647]) ∧ w' = w := by
  go_enter Tryd.func4, Tryd.ntmps4
  go_wp2
  exact bodyPost_ret (v := .tuple #[.int .i64 (-2147483648), .int .i64 2147483647]) (by simp [results, Tryd.results4, go_sem]) rfl ⟨rfl, rfl⟩
theorem range_big (w : World) (h : w.cell? ⟨0, 5, none⟩ = some (.int .i64 64)) :
    Calls Tryd.prog 4 #[.int .u8 2] w fun e w' => e = .returned (.tuple #[.int .i64 (-9223372036854775808), .int .i64 9223372036854775807]) ∧ w' = w := by
  go_enter Tryd.func4, Tryd.ntmps4
  go_wp2
  exact bodyPost_ret (v := .tuple #[.int .i64 (-9223372036854775808), .int .i64 9223372036854775807]) (by simp [results, Tryd.results4, go_sem]) rfl ⟨rfl, rfl⟩
theorem width_big (n : Int) (w : World) :
    Calls Tryd.prog 5 #[.int .u8 2, .int .i64 n] w fun e w' => e = .returned (.bool true) ∧ w' = w := by
  go_enter Tryd.func5, Tryd.ntmps5
  go_wp2
  go_ret
  exact ⟨rfl, rfl⟩
/-- The least and the greatest value, by the type's number. -/
def loOf (t : Int) : Int := if t = 0 then -2147483648 else -9223372036854775808
def hiOf (t : Int) : Int := if t = 0 then 2147483647 else 9223372036854775807
theorem range_any (t : Int) (w : World) (ht : t = 0 ∨ t = 2) (h1 : w.cell? ⟨0, 1, none⟩ = some (.int .i64 32)) (h : w.cell? ⟨0, 5, none⟩ = some (.int .i64 64)) :
    Calls Tryd.prog 4 #[.int .u8 t] w fun e w' => e = .returned (.tuple #[.int .i64 (loOf t), .int .i64 (hiOf t)]) ∧ w' = w := by
  rcases ht with rfl | rfl
  · exact range_int w h1
  · exact range_big w h
def fits32 (n : Int) : Bool := decide (-2147483648 ≤ n) && decide (n ≤ 2147483647)
theorem width_eq (n : Int) : (wrap64 (wrap32 n) == n) = (decide (-2147483648 ≤ n) && decide (n ≤ 2147483647)) := by
  rw [Bool.eq_iff_iff]
  simp only [beq_iff_eq, Bool.and_eq_true, decide_eq_true_eq, wrap64, wrap32]
  omega

theorem width_int (n : Int) (w : World) :
    Calls Tryd.prog 5 #[.int .u8 0, .int .i64 n] w fun e w' => e = .returned (.bool (fits32 n)) ∧ w' = w := by
  have h := width_eq n
  unfold fits32
  rw [← h]
  clear h
  go_enter Tryd.func5, Tryd.ntmps5
  go_wp2
  go_ret
  exact ⟨rfl, rfl⟩
theorem law_other (t : Int) (x : Int) (w : World) (h0 : t ≠ 0) (h2 : t ≠ 2) :
    Calls Tryd.prog 3 #[.int .u8 t, .int .i64 x] w fun e w' => e = .returned (.bool true) ∧ w'.Alike w := by
  have n0 : (t != 0) = true := by simpa using h0
  have n2 : (t != 2) = true := by simpa using h2
  go_enter Tryd.func3, Tryd.ntmps3
  go_wp2
  go_ret
  exact ⟨rfl, rfl, rfl, rfl⟩
theorem law_big (x : Int) (w : World) (hlo : -9223372036854775808 ≤ x) (hhi : x ≤ 9223372036854775807) (h : w.cell? ⟨0, 5, none⟩ = some (.int .i64 64)) :
    Calls Tryd.prog 3 #[.int .u8 2, .int .i64 x] w fun e w' => e = .returned (.bool true) ∧ w'.Alike w := by
  have wa : wrap64 (-9223372036854775809) = 9223372036854775807 := by unfold wrap64; omega
  have wb : wrap64 9223372036854775808 = -9223372036854775808 := by unfold wrap64; omega
  go_enter Tryd.func3, Tryd.ntmps3
  go_wp2_with (first | (go_at_call 4; refine (range_big _ h).mono ?_; rintro e w' ⟨rfl, rfl⟩) | (go_at_call 5; refine (width_big _ _).mono ?_; rintro e w' ⟨rfl, rfl⟩))
  go_ret
  exact ⟨rfl, rfl, rfl, rfl⟩
set_option maxHeartbeats 1000000 in
theorem law_int (x : Int) (w : World) (h1 : w.cell? ⟨0, 1, none⟩ = some (.int .i64 32)) (h : w.cell? ⟨0, 5, none⟩ = some (.int .i64 64)) :
    Calls Tryd.prog 3 #[.int .u8 0, .int .i64 x] w fun e w' => e = .returned (.bool true) ∧ w'.Alike w := by
  have wa : wrap64 (-9223372036854775809) = 9223372036854775807 := by unfold wrap64; omega
  have wb : wrap64 9223372036854775808 = -9223372036854775808 := by unfold wrap64; omega
  have l0 : loOf 0 = -2147483648 := rfl
  have l2 : loOf 2 = -9223372036854775808 := rfl
  have u0 : hiOf 0 = 2147483647 := rfl
  have u2 : hiOf 2 = 9223372036854775807 := rfl
  have f1 : fits32 (-2147483648) = true := rfl
  have f2 : fits32 2147483647 = true := rfl
  have f3 : fits32 (-2147483649) = false := rfl
  have f4 : fits32 2147483648 = false := rfl
  have wc : wrap64 (-2147483649) = -2147483649 := by unfold wrap64; omega
  have wd : wrap64 2147483648 = 2147483648 := by unfold wrap64; omega
  by_cases ha : -2147483648 ≤ x
  · by_cases hb : x ≤ 2147483647
    · have ex : fits32 x = true := by simp [fits32, ha, hb]
      go_enter Tryd.func3, Tryd.ntmps3
      go_wp2_with (first | (go_at_call 4; refine (range_any _ _ (by first | exact Or.inl rfl | exact Or.inr rfl) h1 h).mono ?_; rintro e w' ⟨rfl, rfl⟩) | (go_at_call 5; refine (width_int _ _).mono ?_; rintro e w' ⟨rfl, rfl⟩))
      go_ret
      exact ⟨rfl, rfl, rfl, rfl⟩
    · have ex : fits32 x = false := by simp [fits32, ha, hb]
      go_enter Tryd.func3, Tryd.ntmps3
      go_wp2_with (first | (go_at_call 4; refine (range_any _ _ (by first | exact Or.inl rfl | exact Or.inr rfl) h1 h).mono ?_; rintro e w' ⟨rfl, rfl⟩) | (go_at_call 5; refine (width_int _ _).mono ?_; rintro e w' ⟨rfl, rfl⟩))
      go_ret
      exact ⟨rfl, rfl, rfl, rfl⟩
  · have ex : fits32 x = false := by simp [fits32, ha]
    go_enter Tryd.func3, Tryd.ntmps3
    go_wp2_with (first | (go_at_call 4; refine (range_any _ _ (by first | exact Or.inl rfl | exact Or.inr rfl) h1 h).mono ?_; rintro e w' ⟨rfl, rfl⟩) | (go_at_call 5; refine (width_int _ _).mono ?_; rintro e w' ⟨rfl, rfl⟩))
    go_ret
    exact ⟨rfl, rfl, rfl, rfl⟩
end Go.Proofs.Qxb6613731aDoor

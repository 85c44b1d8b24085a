/- My own work on the program: outcomeBytesFit answers; the small callees. -/
import Derived.Test.Qxb6614456aW2
namespace Go.Proofs.Qxb6614456a
open Go.RowKit
set_option linter.unusedVariables false
set_option linter.unusedSimpArgs false

set_option maxRecDepth 100000 in
set_option maxHeartbeats 4000000 in
theorem bytesFit_any (a : Option Addr) (n c : Nat) (O K T : Nat → ByteArray) (I : Nat → Int) (b : Option Addr) (m d : Nat) (FI : Nat → Int) (FT : Nat → ByteArray) (A : Nat → Option Addr) (L C : Nat → Nat) (X : Nat → Nat → ByteArray) (w : World)
    (bn : n ≤ 1048576) (bm : m ≤ 1048576) (bl : ∀ j, j < m → L j ≤ 1048576) (hc : CondsAt w a n O K T I) (hf : FactsAt w b m FI FT A L C X) :
    Calls Try.prog 18 #[.slice a n c, .slice b m d] w (ZzPost True w) := by
  have HC : Hid (CondsAt w a n O K T I) := hc
  have HF : Hid (FactsAt w b m FI FT A L C X) := hf
  have HB : Hid (∀ j, j < m → L j ≤ 1048576) := bl
  have hadd := fun n l => addBytes_any n l w
  clear hc hf bl
  go_enter Try.func18, Try.ntmps18
  go_wp2
  go_loopw [5, 6, 7, 12] (fun t v u i wr => ∃ (k : Nat) (r : Int) (bb : Bool), k ≤ n ∧ i = .int .i64 k ∧ t = .int .i64 r ∧ v = .bool bb ∧ wr = w) (fun _ _ _ i _ => n - (intOf i).toNat)
  case atStart => exact ⟨0, _, _, Nat.zero_le _, rfl, rfl, rfl, rfl⟩
  case round =>
    obtain ⟨k, r, bb, hk, rfl, rfl, rfl, rfl⟩ := hrel
    by_cases hlt : k < n
    · obtain ⟨x, o, rfl, h1, h2, h3, h4⟩ := HC.out k hlt
      go_wp2_with (go_at_call 24; refine (hadd _ _).mono ?_; rintro e wr ⟨r, b0, rfl, rfl⟩; cases b0)
      all_goals first
        | (go_roundw
           case rel => exact ⟨k + 1, _, _, by omega, by go_num, rfl, rfl, trivial⟩
           case measure => simp [intOf]; omega)
        | (go_ret; exact zz_no)
    · obtain rfl : n = k := by omega
      clear HC hk hlt
      go_wp2
      go_loopw [5, 6, 8, 9, 64] (fun t v u u2 i wx => ∃ (k : Nat) (r : Int) (bb : Bool), k ≤ m ∧ i = .int .i64 k ∧ t = .int .i64 r ∧ v = .bool bb ∧ wx = wr) (fun _ _ _ _ i _ => m - (intOf i).toNat)
      case atStart => exact ⟨0, _, _, Nat.zero_le _, rfl, rfl, rfl, rfl⟩
      case round =>
        obtain ⟨k, r, bb, hk, rfl, rfl, rfl, rfl⟩ := hrel
        by_cases hlt : k < m
        · obtain ⟨x, o, rfl, h1, h2, h3, hS, hLm⟩ := HF.out k hlt
          have HS : Hid (StrsAt wr (A k) (L k) (X k)) := hS
          have hlk := HB.out k hlt
          clear hS hLm
          go_wp2_with (go_at_call 24; refine (hadd _ _).mono ?_; rintro e wr ⟨r, b0, rfl, rfl⟩; cases b0)
          all_goals try (go_ret; exact zz_no)
          go_loopw [5, 6, 93] (fun t v i wx => ∃ (k2 : Nat) (r : Int) (bb : Bool), i = .int .i64 k2 ∧ t = .int .i64 r ∧ v = .bool bb ∧ wx = wr) (fun _ _ i _ => L k - (intOf i).toNat)
          case atStart => exact ⟨0, _, _, rfl, rfl, rfl, rfl⟩
          case round =>
            obtain ⟨k2, r2, bb2, rfl, rfl, rfl, rfl⟩ := hrel
            by_cases hlt2 : k2 < L k
            · obtain ⟨x2, o2, e2, h5⟩ := HS.out k2 hlt2
              rw [e2] at h3
              clear e2
              go_wp2_with (go_at_call 24; refine (hadd _ _).mono ?_; rintro e wr ⟨r, b0, rfl, rfl⟩; cases b0)
              all_goals try (go_ret; exact zz_no)
              go_roundw
              case rel => exact ⟨k2 + 1, _, _, by go_num, rfl, rfl, trivial⟩
              case measure => simp [intOf]; omega
            · go_wp2
              go_roundw
              case rel => exact ⟨k + 1, _, _, by omega, by go_num, rfl, rfl, trivial⟩
              case measure => simp [intOf]; omega
        · go_wp2
          go_ret
          exact ⟨true, rfl, rfl, fun _ => trivial⟩

/-- 'Not' ahead of a name. -/
def notName (s : ByteArray) : ByteArray := { data := #[78, 111, 116] } ++ s
theorem memberName_any (s : ByteArray) (b : Bool) (w : World) (hs : s.size ≤ 1048576) : Calls Try.prog 32 #[.string s, .bool b] w fun e w' => e = .returned (.string (if b then notName s else s)) ∧ w' = w := by
  cases b
  · go_enter Try.func32, Try.ntmps32
    go_wp2
    go_ret
    exact ⟨rfl, rfl⟩
  · go_enter Try.func32, Try.ntmps32
    go_wp2
    go_ret
    exact ⟨rfl, rfl⟩

/-- notPair: of the two names the one with the flag is 'Not' and the name. -/
theorem notPair_any (s : ByteArray) (b : Bool) (w : World) (hs : s.size ≤ 1048576) :
    Calls Try.prog 22 #[.string (if b then notName s else s), .string (if b then s else notName s), .bool b, .string s] w fun e w' => e = .returned (.bool true) ∧ w' = w := by
  have e : ({ data := #[78, 111, 116] } : ByteArray) ++ s = notName s := rfl
  cases b
  · simp only [Bool.false_eq_true, if_false]
    generalize notName s = t at e
    go_enter Try.func22, Try.ntmps22
    go_wp2
    go_ret
    exact ⟨rfl, rfl⟩
  · simp only [if_true]
    generalize notName s = t at e
    go_enter Try.func22, Try.ntmps22
    go_wp2
    go_ret
    exact ⟨rfl, rfl⟩

set_option maxRecDepth 100000 in
/-- sameStrings at two slices of the same strings. -/
theorem sameStrings_any (a : Option Addr) (n c : Nat) (b : Option Addr) (d : Nat) (S : Nat → ByteArray) (w : World) (hn : n ≤ 1048576) (ha : StrsAt w a n S) (hb : StrsAt w b n S) :
    Calls Try.prog 21 #[.slice a n c, .slice b n d] w fun e w' => e = .returned (.bool true) ∧ Below w.heap.size w w' := by
  have HA : Hid (StrsAt w a n S) := ha
  have HB : Hid (StrsAt w b n S) := hb
  clear ha hb
  go_enter Try.func21, Try.ntmps21
  go_wp2
  go_loopw [13] (fun i wr => ∃ k : Nat, k ≤ n ∧ i = .int .i64 k ∧ Below w.heap.size w wr) (fun i _ => n - (intOf i).toNat)
  case atStart => exact ⟨0, Nat.zero_le _, rfl, Below.refl _ _⟩
  case round =>
    obtain ⟨k, hk, rfl, hbel⟩ := hrel
    have HW : Hid (Below w.heap.size w wr) := hbel
    by_cases hlt : k < n
    · obtain ⟨x, o, rfl, h1⟩ := HA.out.below hbel (Nat.le_refl _) k hlt
      obtain ⟨y, q, rfl, h2⟩ := HB.out.below hbel (Nat.le_refl _) k hlt
      clear hbel
      go_wp2_with fail
      go_quiet (fail)
      go_wp2_with fail
      go_roundw
      case rel => exact ⟨k + 1, by omega, by go_num, HW.out.trans ⟨rfl, rfl, rfl, Nat.le_refl _, fun _ _ => rfl⟩⟩
      case measure => simp [intOf]; omega
    · clear hbel
      go_wp2
      go_ret
      exact ⟨rfl, HW.out⟩
end Go.Proofs.Qxb6614456a

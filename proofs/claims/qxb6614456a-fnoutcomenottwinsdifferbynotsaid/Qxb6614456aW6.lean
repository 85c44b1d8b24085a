/- My own work on the program: (*Statement).outcome. -/
import Derived.Test.Qxb6614456aW5
import Derived.OwnWalk
import Derived.Laws.AppendOwnNone
namespace Go.Proofs.Qxb6614456a
open Go.RowKit
set_option linter.unusedVariables false
set_option linter.unusedSimpArgs false

theorem Try.info112 : (Try.prog.info? 112).map (fun i => (i.zero, i.size, i.bytes)) = some (some (.agg #[.string { data := #[] }, .bool false, .string { data := #[] }, .int .i64 0, .int .u64 0, .int .i64 0, .pointer none, .bool false, .int .u64 0, .int .u64 0, .pointer none, .int .u8 0, .bool false, .bool false]), 14, 120) := by
  kernel_rfl
theorem Try.info9 : (Try.prog.info? 9).map (fun i => (i.zero, i.size, i.bytes)) = some (some (.string { data := #[] }), 1, 16) := by kernel_rfl
/-- The cells of a value that bears a text alone. -/
def zc (i : Nat) : Value := match i with
  | 1 => .bool false | 2 => .string { data := #[] } | 3 => .int .i64 0 | 4 => .int .u64 0 | 5 => .int .i64 0 | 6 => .pointer none | 7 => .bool false
  | 8 => .int .u64 0 | 9 => .int .u64 0 | 10 => .pointer none | 11 => .int .u8 0 | 12 => .bool false | 13 => .bool false | _ => .string { data := #[] }
def valF (S : Nat → ByteArray) (q : Nat) : Value := if q % 14 = 0 then .string (S (q / 14)) else zc (q % 14)
/-- The outcome as a value. -/
def outV (app : Bool) (el op key : ByteArray) (v : Value) : Value := .agg #[.bool app, .string el, .string op, .string key, v]
def OutPost (w : World) (v : Value) (e : Ending) (w' : World) : Prop := e = .returned v ∧ Below w.heap.size w w'
abbrev eS : ByteArray := { data := #[] }
def pS : ByteArray := { data := #[80, 114, 105, 110, 99, 105, 112, 97, 108] }
def aS : ByteArray := { data := #[65, 99, 116, 105, 111, 110] }
def rS : ByteArray := { data := #[82, 101, 115, 111, 117, 114, 99, 101] }
def cS : ByteArray := { data := #[67, 111, 110, 100, 105, 116, 105, 111, 110] }

set_option maxRecDepth 100000 in
set_option maxHeartbeats 1000000 in
theorem outcome_0 (Bs Bf : Nat) (at' : Int) (w : World) :
    Calls Try.prog 29 #[.pointer (some ⟨Bs, 0, none⟩), .int .u8 0, .int .i64 at', .pointer (some ⟨Bf, 0, none⟩)] w (OutPost w (outV true eS eS eS (.slice none 0 0))) := by
  have HB : Hid (Below w.heap.size w (w.alloc (.cells #[.bool true, .string eS, .string eS, .string eS, .slice none 0 0] 43))) := (Below.refl _ _).alloc (Nat.le_refl _) _
  go_enter Try.func29, Try.ntmps29
  go_wp2
  exact bodyPost_ret (v := outV true eS eS eS (.slice none 0 0)) (by simp [results, Try.results29, go_sem, outV]) rfl ⟨rfl, HB.out⟩

set_option maxRecDepth 100000 in
set_option maxHeartbeats 1000000 in
theorem outcome_1 (Bs Bf : Nat) (at' : Int) (b : Bool) (w : World) (h : w.cell? ⟨Bs, 3, none⟩ = some (.bool b)) :
    Calls Try.prog 29 #[.pointer (some ⟨Bs, 0, none⟩), .int .u8 1, .int .i64 at', .pointer (some ⟨Bf, 0, none⟩)] w (OutPost w (outV false (if b then notName pS else pS) eS eS (.slice none 0 0))) := by
  have hl : Bs < w.heap.size := World.block_lt_of_cell? w _ h
  have hcall := fun w => memberName_any pS b w (by decide)
  generalize (if b = true then notName pS else pS) = nm at hcall
  have HB : Hid (Below w.heap.size w (w.alloc (.cells #[.bool false, .string nm, .string eS, .string eS, .slice none 0 0] 43))) := (Below.refl _ _).alloc (Nat.le_refl _) _
  go_enter Try.func29, Try.ntmps29
  go_wp2_with (go_at_call 32; refine (hcall _).mono ?_; rintro e w' ⟨rfl, rfl⟩)
  exact bodyPost_ret (v := outV false nm eS eS (.slice none 0 0)) (by simp [results, Try.results29, go_sem, outV]) rfl ⟨rfl, HB.out⟩

set_option maxRecDepth 100000 in
set_option maxHeartbeats 1000000 in
theorem outcome_2 (Bs Bf : Nat) (at' : Int) (b : Bool) (w : World) (h : w.cell? ⟨Bs, 7, none⟩ = some (.bool b)) :
    Calls Try.prog 29 #[.pointer (some ⟨Bs, 0, none⟩), .int .u8 2, .int .i64 at', .pointer (some ⟨Bf, 0, none⟩)] w (OutPost w (outV false (if b then notName aS else aS) eS eS (.slice none 0 0))) := by
  have hl : Bs < w.heap.size := World.block_lt_of_cell? w _ h
  have hcall := fun w => memberName_any aS b w (by decide)
  generalize (if b = true then notName aS else aS) = nm at hcall
  have HB : Hid (Below w.heap.size w (w.alloc (.cells #[.bool false, .string nm, .string eS, .string eS, .slice none 0 0] 43))) := (Below.refl _ _).alloc (Nat.le_refl _) _
  go_enter Try.func29, Try.ntmps29
  go_wp2_with (go_at_call 32; refine (hcall _).mono ?_; rintro e w' ⟨rfl, rfl⟩)
  exact bodyPost_ret (v := outV false nm eS eS (.slice none 0 0)) (by simp [results, Try.results29, go_sem, outV]) rfl ⟨rfl, HB.out⟩

set_option maxRecDepth 100000 in
set_option maxHeartbeats 1000000 in
theorem outcome_3 (Bs Bf : Nat) (at' : Int) (b : Bool) (w : World) (h : w.cell? ⟨Bs, 12, none⟩ = some (.bool b)) :
    Calls Try.prog 29 #[.pointer (some ⟨Bs, 0, none⟩), .int .u8 3, .int .i64 at', .pointer (some ⟨Bf, 0, none⟩)] w (OutPost w (outV false (if b then notName rS else rS) eS eS (.slice none 0 0))) := by
  have hl : Bs < w.heap.size := World.block_lt_of_cell? w _ h
  have hcall := fun w => memberName_any rS b w (by decide)
  generalize (if b = true then notName rS else rS) = nm at hcall
  have HB : Hid (Below w.heap.size w (w.alloc (.cells #[.bool false, .string nm, .string eS, .string eS, .slice none 0 0] 43))) := (Below.refl _ _).alloc (Nat.le_refl _) _
  go_enter Try.func29, Try.ntmps29
  go_wp2_with (go_at_call 32; refine (hcall _).mono ?_; rintro e w' ⟨rfl, rfl⟩)
  exact bodyPost_ret (v := outV false nm eS eS (.slice none 0 0)) (by simp [results, Try.results29, go_sem, outV]) rfl ⟨rfl, HB.out⟩
end Go.Proofs.Qxb6614456a

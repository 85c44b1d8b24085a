/- My own work on the program: rows of bytes: a copy, an append; zzBytes, veStop. -/
import Derived.Test.Qxb6609087aW2
import Derived.Laws.CopyOwn
import Derived.Laws.AppendOwnNone
import Derived.OwnWalk
import Derived.Maps.OwnRows
namespace Go.Proofs.Qxb6609087a
open Go.RowKit
set_option linter.unusedVariables false
set_option linter.unusedSimpArgs false

theorem Try.info5 : (Try.prog.info? 5).map (fun i => (i.zero, i.size, i.bytes)) = some (some (.int .u8 0), 1, 1) := by kernel_rfl

/-- The bytes as cells. -/
def bytesL (n : Nat) (Z : Nat → Int) : List Value := (List.range n).map fun j => Value.int .u8 (Z j)
theorem bytesL_length (n : Nat) (Z : Nat → Int) : (bytesL n Z).length = n := by simp [bytesL]
theorem bytesL_at (n : Nat) (Z : Nat → Int) {j : Nat} (h : j < n) : (bytesL n Z)[j]? = some (.int .u8 (Z j)) := by simp [bytesL, h]
theorem bytesL_one (n : Nat) (Z : Nat → Int) : ∀ v ∈ bytesL n Z, v.oneCell' = true := by
  intro v hv
  simp only [bytesL, List.mem_map] at hv
  obtain ⟨j, _, rfl⟩ := hv
  rfl
/-- One text behind another. -/
def joinF (m : Nat) (P Z : Nat → Int) (k : Nat) : Int := if k < m then P k else Z (k - m)
theorem bytesL_join (m n : Nat) (P Z : Nat → Int) : bytesL m P ++ bytesL n Z = bytesL (m + n) (joinF m P Z) := by
  apply List.ext_getElem?
  intro k
  by_cases h : k < m
  · rw [List.getElem?_append_left (by rw [bytesL_length]; exact h), bytesL_at _ _ h, bytesL_at _ _ (by omega), joinF, if_pos h]
  · rw [List.getElem?_append_right (by rw [bytesL_length]; omega), bytesL_length]
    by_cases h2 : k < m + n
    · rw [bytesL_at _ _ (by omega), bytesL_at _ _ h2, joinF, if_neg h]
    · rw [List.getElem?_eq_none (by rw [bytesL_length]; omega), List.getElem?_eq_none (by rw [bytesL_length]; omega)]

theorem bytesAt_of_block {w : World} {g n : Nat} {cur : Array Value} {t : TypeId} {Z : Nat → Int} (hg : w.heap[g]? = some (.cells cur t (0, 0)))
    (hc : ∀ j, j < n → cur[j]? = some (.int .u8 (Z j))) : BytesAt w (some ⟨g, 0, none⟩) n Z := by
  intro i hi
  refine ⟨g, 0, rfl, ?_⟩
  simp [World.cell?, hg, hc i hi]

theorem own_bytes {w : World} {base n : Nat} {v : Value} {Z : Nat → Int} (h : w.ownsRow base 5 1 v n (bytesL n Z)) : ∃ a c, v = .slice a n c ∧ BytesAt w a n Z := by
  obtain ⟨hl, ⟨rfl, rfl⟩ | ⟨g, cap, cur, rfl, hb, hg, hnc, hm, hs, ht⟩⟩ := h
  · exact ⟨none, 0, rfl, fun i hi => absurd hi (by omega)⟩
  · refine ⟨_, _, rfl, bytesAt_of_block hg fun j hj => ?_⟩
    have := bytesL_at n Z hj
    rw [← ht, Nat.mul_one, List.getElem?_take_of_lt hj] at this
    simpa using this

/-- 'append(own, bytes...)'. -/
theorem wpList_append_bytes {w : World} {ops : Array Oper} {rest : List Oper} {o : Oper} {a : Act} {Q : Exit → Act → World → Prop} (hgd : o.guard = none) (s x : Operand)
    (ho : o.op = .call { callee := .builtin .append, args := #[s, x], argTypes := #[22, 22] })
    (base : Nat) (v : Value) (n : Nat) (xs : List Value) (hs : a.eval s = v) (hown : w.ownsRow base 5 1 v n xs)
    (ax : Option Addr) (m c : Nat) (P : Nat → Int) (hx : a.eval x = .slice ax m c) (hnil : ax = none → m = 0 ∧ c = 0) (hb : BytesAt w ax m P)
    (hle : n + m ≤ 1048576) (hbase : base ≤ w.heap.size) (w0 : World) (hbel : Below base w0 w)
    (h : ∀ v' w', w'.ownsRow base 5 1 v' (n + m) (xs ++ bytesL m P) → Below base w0 w' → wpList Try.prog ops Q rest (a.put o.dst v') w') : wpList Try.prog ops Q (o :: rest) a w := by
  obtain ⟨i, hi, hzz⟩ := Option.map_eq_some_iff.1 Try.info5
  simp only [Prod.mk.injEq] at hzz
  obtain ⟨hz, hsz, hby⟩ := hzz
  cases ax with
  | none =>
    obtain ⟨rfl, rfl⟩ := hnil rfl
    refine wpList_append_own_none hgd s x 22 ho base 5 i 1 Try.underlying22 hi v n xs hs hown hx ?_
    exact h v w (by simpa [bytesL] using hown) hbel
  | some ad =>
    refine wpList_append_own _ hgd s x 22 ho base 5 i (.int .u8 0) 1 1 Try.underlying22 hi hz hsz hby rfl (by decide) v n xs hs hown ad m c (bytesL m P) hx (by rw [bytesL_length]; omega) ?_ (bytesL_one m P)
      (by simp only [maxLen]; omega) (by omega) hbase ?_
    · intro j u hj
      have hjm : j < m := by
        have := (List.getElem?_eq_some_iff.1 hj).1
        rwa [bytesL_length] at this
      rw [bytesL_at m P hjm] at hj
      obtain ⟨b, off, e, hc⟩ := hb j hjm
      cases e
      cases hj
      by_cases hj0 : j = 0
      · subst hj0; simpa [Addr.add] using hc
      · simpa [Addr.add, hj0] using hc
    · intro v' w' h1 h2 _
      exact h v' w' h1 (hbel.grown h2 hbase (fun k hk => (hown.lt k hk).1))

/-- Some bool, and nothing turned. -/
def SomeBool (w : World) (e : Ending) (w' : World) : Prop := ∃ b, e = .returned (.bool b) ∧ w' = w
theorem zzBytes_local (a0 : Option Addr) (m c0 : Nat) (a1 : Option Addr) (n c1 : Nat) (a2 : Option Addr) (l c2 : Nat) (i : Int) (w : World)
    (h0 : m ≤ 9223372036854775807) (h1 : n ≤ 9223372036854775807) (h2 : l ≤ 9223372036854775807) :
    Calls Try.prog 8 #[.slice a0 m c0, .slice a1 n c1, .slice a2 l c2, .int .i64 i] w (SomeBool w) := by
  by_cases t0 : 1048576 < m
  · go_enter Try.func8, Try.ntmps8
    go_wp2
    go_ret
    exact ⟨_, rfl, rfl⟩
  by_cases t1 : 1048576 < n
  · go_enter Try.func8, Try.ntmps8
    go_wp2
    go_ret
    exact ⟨_, rfl, rfl⟩
  by_cases t2 : 1048576 < (m : Int) + n
  · go_enter Try.func8, Try.ntmps8
    go_wp2
    go_ret
    exact ⟨_, rfl, rfl⟩
  by_cases t3 : 1048576 < l
  · go_enter Try.func8, Try.ntmps8
    go_wp2
    go_ret
    exact ⟨_, rfl, rfl⟩
  by_cases t4 : 1048576 < (m : Int) + n + l
  · go_enter Try.func8, Try.ntmps8
    go_wp2
    go_ret
    exact ⟨_, rfl, rfl⟩
  go_enter Try.func8, Try.ntmps8
  go_wp2
  go_ret
  exact ⟨_, rfl, rfl⟩

/-- The bytes that end a value where they stand. -/
def stops (c : Int) : Bool := c == 44 || c == 58 || c == 32 || c == 9 || c == 10 || c == 13 || c == 93 || c == 125
theorem veStop_any (c : Int) (w : World) : Calls Try.prog 9 #[.int .u8 c] w fun e w' => e = .returned (.bool (stops c)) ∧ w' = w := by
  by_cases h1 : c = 44
  · subst h1
    go_enter Try.func9, Try.ntmps9
    go_wp2
    go_ret
    exact ⟨rfl, rfl⟩
  by_cases h2 : c = 58
  · subst h2
    go_enter Try.func9, Try.ntmps9
    go_wp2
    go_ret
    exact ⟨rfl, rfl⟩
  by_cases h3 : c = 32
  · subst h3
    go_enter Try.func9, Try.ntmps9
    go_wp2
    go_ret
    exact ⟨rfl, rfl⟩
  by_cases h4 : c = 9
  · subst h4
    go_enter Try.func9, Try.ntmps9
    go_wp2
    go_ret
    exact ⟨rfl, rfl⟩
  by_cases h5 : c = 10
  · subst h5
    go_enter Try.func9, Try.ntmps9
    go_wp2
    go_ret
    exact ⟨rfl, rfl⟩
  by_cases h6 : c = 13
  · subst h6
    go_enter Try.func9, Try.ntmps9
    go_wp2
    go_ret
    exact ⟨rfl, rfl⟩
  by_cases h7 : c = 93
  · subst h7
    go_enter Try.func9, Try.ntmps9
    go_wp2
    go_ret
    exact ⟨rfl, rfl⟩
  by_cases h8 : c = 125
  · subst h8
    go_enter Try.func9, Try.ntmps9
    go_wp2
    go_ret
    exact ⟨rfl, rfl⟩
  have e : stops c = false := by simp [stops, h1, h2, h3, h4, h5, h6, h7, h8]
  rw [e]
  have f1 : (c == 44) = false := by simpa using h1
  have f2 : (c == 58) = false := by simpa using h2
  have f3 : (c == 32) = false := by simpa using h3
  have f4 : (c == 9) = false := by simpa using h4
  have f5 : (c == 10) = false := by simpa using h5
  have f6 : (c == 13) = false := by simpa using h6
  have f7 : (c == 93) = false := by simpa using h7
  have f8 : (c == 125) = false := by simpa using h8
  go_enter Try.func9, Try.ntmps9
  go_wp2
  go_ret
  exact ⟨rfl, rfl⟩
end Go.Proofs.Qxb6609087a

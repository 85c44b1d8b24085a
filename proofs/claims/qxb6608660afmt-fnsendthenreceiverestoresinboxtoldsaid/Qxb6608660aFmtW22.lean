/- My own work on the program: a script of sends. -/
import Derived.Test.Qxb6608660aFmtW17
import Derived.Test.Qxb6608660aFmtW20
import Derived.Test.Qxb6608660aFmtW21
namespace Go.Proofs.Qxb6608660aFmt
open Go.RowKit
set_option linter.unusedSimpArgs false
set_option linter.unusedVariables false

set_option maxRecDepth 100000 in
theorem zzSend_of {Bx : Nat} {tn : ByteArray} {q : Int} {w : World} {R : Ending → World → Prop} (h : Calls Tryf.prog 29 #[.pointer (some ⟨Bx, 0, none⟩), .string tn, .iface 3 (.int .i64 q)] w (fun e w' => e = .returned (.tuple #[]) ∧ R (.returned (.tuple #[])) w')) :
    Calls Tryf.prog 15 #[.pointer (some ⟨Bx, 0, none⟩), .string tn, .int .i64 q] w R := by
  go_enter Tryf.func15, Tryf.ntmps15
  go_wp2_with (go_at_call 29; refine h.mono ?_; rintro e w' ⟨rfl, hR⟩)
  exact bodyPost_end (v := .tuple #[]) (by simp [results, Tryf.results15, go_sem]) rfl hR

/-- How many of the first k sends go to j. -/
def cntM (dst : Nat → Nat) : Nat → Nat → Nat
  | 0, _ => 0
  | k + 1, j => if dst k = j then cntM dst k j + 1 else cntM dst k j
theorem cntM_same (dst : Nat → Nat) (k : Nat) : cntM dst (k + 1) (dst k) = cntM dst k (dst k) + 1 := by rw [cntM, if_pos rfl]
theorem cntM_other (dst : Nat → Nat) {k j : Nat} (h : j ≠ dst k) : cntM dst (k + 1) j = cntM dst k j := by rw [cntM, if_neg (fun e => h e.symm)]
theorem cntM_le (dst : Nat → Nat) : ∀ k j, cntM dst k j ≤ k := by
  intro k
  induction k with
  | zero => intro j; exact Nat.le_refl _
  | succ k ih =>
    intro j
    rw [cntM]
    have := ih j
    split <;> omega
theorem cntM_mono (dst : Nat → Nat) (j : Nat) : ∀ {k i}, i ≤ k → cntM dst i j ≤ cntM dst k j := by
  intro k
  induction k with
  | zero =>
    intro i h
    obtain rfl : i = 0 := by omega
    exact Nat.le_refl _
  | succ k ih =>
    intro i h
    by_cases e : i = k + 1
    · subst e; exact Nat.le_refl _
    · have := ih (i := i) (by omega)
      rw [show cntM dst (k + 1) j = if dst k = j then cntM dst k j + 1 else cntM dst k j from rfl]
      split <;> omega
theorem cntM_lt (dst : Nat → Nat) {k i : Nat} (h : i < k) : cntM dst i (dst i) < cntM dst k (dst i) := by
  have := cntM_mono dst (dst i) (show i + 1 ≤ k from h)
  rw [cntM_same] at this
  omega
/-- The tracer's number behind k sends. -/
def msI (ms : Int) : Nat → Int
  | 0 => ms
  | k + 1 => wrap64 (msI ms k + 1)
theorem msI_eq (ms : Int) : ∀ (k : Nat) (c : Int), wrap64 (msI ms k + c) = wrap64 (ms + k + c) := by
  intro k
  induction k with
  | zero => intro c; rw [msI]; simp
  | succ k ih =>
    intro c
    rw [msI]
    have h1 := ih 1
    rw [h1]
    unfold wrap64
    omega

/-- Cells of a list, kept where the list grows. -/
theorem get_app {xs ys : List Value} {i : Nat} {v : Value} (h : xs[i]? = some v) : (xs ++ ys)[i]? = some v := by
  have hl : i < xs.length := (List.getElem?_eq_some_iff.1 h).1
  rw [List.getElem?_append_left hl]; exact h
theorem get_new {xs ys : List Value} {n i : Nat} (h : xs.length = n) : (xs ++ ys)[n + i]? = ys[i]? := by
  subst h
  rw [List.getElem?_append_right (by omega)]
  congr 1
  omega

def MsgAt (xs : List Value) (p : Nat) (a b : ByteArray) (q : Int) : Prop := xs[p * 3]? = some (.string a) ∧ xs[p * 3 + 1]? = some (.string b) ∧ xs[p * 3 + 2]? = some (.iface 3 (.int .i64 q))
theorem MsgAt.app {xs ys : List Value} {p : Nat} {a b : ByteArray} {q : Int} (h : MsgAt xs p a b q) : MsgAt (xs ++ ys) p a b q := ⟨get_app h.1, get_app h.2.1, get_app h.2.2⟩
theorem MsgAt.new {xs : List Value} {p : Nat} {a b : ByteArray} {q : Int} (h : xs.length = p * 3) : MsgAt (xs ++ msgCells a b q) p a b q :=
  ⟨get_new (i := 0) h, get_new (i := 1) h, get_new (i := 2) h⟩
def StAt (w : World) (tg : Nat → Nat × Nat) (xs : List Value) (p : Nat) (wl : Nat) (WZ : Nat → Int) (n : Int) : Prop := ∃ b c, xs[p * 2]? = some (.slice b wl c) ∧ xs[p * 2 + 1]? = some (.int .i64 n) ∧ CInts w tg b wl WZ
theorem StAt.app {w w' : World} {tg tg' : Nat → Nat × Nat} {xs ys : List Value} {p wl : Nat} {WZ : Nat → Int} {n : Int} (h : StAt w tg xs p wl WZ n) (hl : Link3 tg w tg' w') : StAt w' tg' (xs ++ ys) p wl WZ n := by
  obtain ⟨b, c, h1, h2, h3⟩ := h
  exact ⟨b, c, get_app h1, get_app h2, h3.link hl⟩
theorem StAt.link {w w' : World} {tg tg' : Nat → Nat × Nat} {xs : List Value} {p wl : Nat} {WZ : Nat → Int} {n : Int} (h : StAt w tg xs p wl WZ n) (hl : Link3 tg w tg' w') : StAt w' tg' xs p wl WZ n := by
  obtain ⟨b, c, h1, h2, h3⟩ := h
  exact ⟨b, c, h1, h2, h3.link hl⟩
theorem StAt.new {w : World} {tg : Nat → Nat × Nat} {xs : List Value} {p wl c : Nat} {WZ : Nat → Int} {n : Int} {b : Option Addr} (h : xs.length = p * 2) (hz : CInts w tg b wl WZ) : StAt w tg (xs ++ stCells b wl c n) p wl WZ n :=
  ⟨b, c, get_new (i := 0) h, get_new (i := 1) h, hz⟩

/-- Behind k sends. -/
structure Sent (B : Nat) (w0 w : World) (tg : Nat → Nat × Nat) (N Bx Bsys Bmap fr : Nat) (nodes : Value) (nb : Nat → Nat) (S : Nat → ByteArray) (tr : Bool) (Bt Bc K cK : Nat) (wl : Nat) (WZ : Nat → Int) (dst : Nat → Nat) (T : Nat → ByteArray) (Q : Nat → Int) (ms : Int) (k : Nat) (val : Nat → Value) (cnt : Nat → Nat) (cs : Nat → List Value) : Prop where
  sys : SysIn B w0 w tg N Bx Bsys Bmap fr nodes nb S (lastN S N) (if tr then some ⟨Bt, 0, none⟩ else none) val cnt cs
  trc : tr = true → ∃ sa sl sc st, TrIn w tg Bt Bc K cK fr sa sl sc st (msI ms k) wl WZ
  c0 : cnt 0 = k
  c1 : ∀ j, j < N → cnt (1 + 2 * j) = cntM dst k j
  c2 : ∀ j, j < N → cnt (2 + 2 * j) = if tr then cntM dst k j else 0
  l0 : ∀ i, i < k → MsgAt (cs 0) i (S fr) (T i) (Q i)
  l1 : ∀ i, i < k → MsgAt (cs (1 + 2 * dst i)) (cntM dst i (dst i)) (S fr) (T i) (Q i)
  l2 : tr = true → ∀ i, i < k → StAt w tg (cs (2 + 2 * dst i)) (cntM dst i (dst i)) wl WZ (wrap64 (msI ms i + 1))

theorem Sent.len {B : Nat} {w0 w : World} {tg : Nat → Nat × Nat} {N Bx Bsys Bmap fr : Nat} {nodes : Value} {nb : Nat → Nat} {S : Nat → ByteArray} {tr : Bool} {Bt Bc K cK wl : Nat} {WZ : Nat → Int} {dst : Nat → Nat} {T : Nat → ByteArray} {Q : Nat → Int} {ms : Int} {k : Nat} {val : Nat → Value} {cnt : Nat → Nat} {cs : Nat → List Value}
    (h : Sent B w0 w tg N Bx Bsys Bmap fr nodes nb S tr Bt Bc K cK wl WZ dst T Q ms k val cnt cs) {r : Nat} (hr : r < 1 + 2 * N) : (cs r).length = cnt r * rsz r := (h.sys.rows r hr).1

theorem Sent.plain {B : Nat} {w0 w w' : World} {tg : Nat → Nat × Nat} {N Bx Bsys Bmap fr : Nat} {nodes : Value} {nb : Nat → Nat} {S : Nat → ByteArray} {Bt Bc K cK wl : Nat} {WZ : Nat → Int} {dst : Nat → Nat} {T : Nat → ByteArray} {Q : Nat → Int} {ms : Int} {k : Nat} {val : Nat → Value} {cnt : Nat → Nat} {cs : Nat → List Value}
    (h : Sent B w0 w tg N Bx Bsys Bmap fr nodes nb S false Bt Bc K cK wl WZ dst T Q ms k val cnt cs) (hd : dst k < N) {tg' : Nat → Nat × Nat} {val' : Nat → Value}
    (hs : SysIn B w0 w' tg' N Bx Bsys Bmap fr nodes nb S (lastN S N) none val' (upd (upd cnt (1 + 2 * dst k) (cnt (1 + 2 * dst k) + 1)) 0 (cnt 0 + 1)) (upd (upd cs (1 + 2 * dst k) (cs (1 + 2 * dst k) ++ msgCells (S fr) (T k) (Q k))) 0 (cs 0 ++ msgCells (S fr) (T k) (Q k)))) :
    Sent B w0 w' tg' N Bx Bsys Bmap fr nodes nb S false Bt Bc K cK wl WZ dst T Q ms (k + 1) val' (upd (upd cnt (1 + 2 * dst k) (cnt (1 + 2 * dst k) + 1)) 0 (cnt 0 + 1)) (upd (upd cs (1 + 2 * dst k) (cs (1 + 2 * dst k) ++ msgCells (S fr) (T k) (Q k))) 0 (cs 0 ++ msgCells (S fr) (T k) (Q k))) where
  sys := hs
  trc := fun e => by cases e
  c0 := by rw [upd_same, h.c0]
  c1 := fun j hj => by
    rw [upd_other _ _ (show 1 + 2 * j ≠ 0 from by omega)]
    by_cases e : j = dst k
    · subst e; rw [upd_same, h.c1 _ hj, cntM_same]
    · rw [upd_other _ _ (show 1 + 2 * j ≠ 1 + 2 * dst k from by omega), h.c1 _ hj, cntM_other dst e]
  c2 := fun j hj => by
    rw [upd_other _ _ (show 2 + 2 * j ≠ 0 from by omega), upd_other _ _ (show 2 + 2 * j ≠ 1 + 2 * dst k from by omega), h.c2 _ hj]; simp
  l0 := fun i hi => by
    rw [upd_same]
    by_cases e : i = k
    · subst e
      exact MsgAt.new (by rw [h.len (by omega), h.c0]; rfl)
    · exact (h.l0 i (by omega)).app
  l1 := fun i hi => by
    rw [upd_other _ _ (show 1 + 2 * dst i ≠ 0 from by omega)]
    by_cases e : i = k
    · subst e
      rw [upd_same]
      exact MsgAt.new (by rw [h.len (by omega), h.c1 _ hd, rsz1])
    · by_cases e2 : dst i = dst k
      · rw [e2, upd_same, ← e2]; exact (h.l1 i (by omega)).app
      · rw [upd_other _ _ (show 1 + 2 * dst i ≠ 1 + 2 * dst k from by omega)]; exact h.l1 i (by omega)
  l2 := fun e => by cases e

theorem Sent.traced {B : Nat} {w0 w w' : World} {tg : Nat → Nat × Nat} {N Bx Bsys Bmap fr : Nat} {nodes : Value} {nb : Nat → Nat} {S : Nat → ByteArray} {Bt Bc K cK wl : Nat} {WZ : Nat → Int} {dst : Nat → Nat} {T : Nat → ByteArray} {Q : Nat → Int} {ms : Int} {k : Nat} {val : Nat → Value} {cnt : Nat → Nat} {cs : Nat → List Value}
    (h : Sent B w0 w tg N Bx Bsys Bmap fr nodes nb S true Bt Bc K cK wl WZ dst T Q ms k val cnt cs) (hd : dst k < N) {tg' : Nat → Nat × Nat} {val' : Nat → Value} {b : Option Addr} {c : Nat} {st : Int} (hl : Link3 tg w tg' w') (hz : CInts w' tg' b wl WZ) (ht : TrIn w' tg' Bt Bc K cK fr b wl c st (wrap64 (msI ms k + 1)) wl WZ)
    (hs : SysIn B w0 w' tg' N Bx Bsys Bmap fr nodes nb S (lastN S N) (some ⟨Bt, 0, none⟩) val' (upd (upd (upd cnt (1 + 2 * dst k) (cnt (1 + 2 * dst k) + 1)) (2 + 2 * dst k) (cnt (2 + 2 * dst k) + 1)) 0 (cnt 0 + 1))
      (upd (upd (upd cs (1 + 2 * dst k) (cs (1 + 2 * dst k) ++ msgCells (S fr) (T k) (Q k))) (2 + 2 * dst k) (cs (2 + 2 * dst k) ++ stCells b wl c (wrap64 (msI ms k + 1)))) 0 (cs 0 ++ msgCells (S fr) (T k) (Q k)))) :
    Sent B w0 w' tg' N Bx Bsys Bmap fr nodes nb S true Bt Bc K cK wl WZ dst T Q ms (k + 1) val' (upd (upd (upd cnt (1 + 2 * dst k) (cnt (1 + 2 * dst k) + 1)) (2 + 2 * dst k) (cnt (2 + 2 * dst k) + 1)) 0 (cnt 0 + 1))
      (upd (upd (upd cs (1 + 2 * dst k) (cs (1 + 2 * dst k) ++ msgCells (S fr) (T k) (Q k))) (2 + 2 * dst k) (cs (2 + 2 * dst k) ++ stCells b wl c (wrap64 (msI ms k + 1)))) 0 (cs 0 ++ msgCells (S fr) (T k) (Q k))) where
  sys := hs
  trc := fun _ => ⟨b, wl, c, st, ht⟩
  c0 := by rw [upd_same, h.c0]
  c1 := fun j hj => by
    rw [upd_other _ _ (show 1 + 2 * j ≠ 0 from by omega), upd_other _ _ (show 1 + 2 * j ≠ 2 + 2 * dst k from by omega)]
    by_cases e : j = dst k
    · subst e; rw [upd_same, h.c1 _ hj, cntM_same]
    · rw [upd_other _ _ (show 1 + 2 * j ≠ 1 + 2 * dst k from by omega), h.c1 _ hj, cntM_other dst e]
  c2 := fun j hj => by
    rw [upd_other _ _ (show 2 + 2 * j ≠ 0 from by omega)]
    by_cases e : j = dst k
    · subst e; rw [upd_same, h.c2 _ hj, if_pos rfl, if_pos rfl, cntM_same]
    · rw [upd_other _ _ (show 2 + 2 * j ≠ 2 + 2 * dst k from by omega), upd_other _ _ (show 2 + 2 * j ≠ 1 + 2 * dst k from by omega), h.c2 _ hj, if_pos rfl, if_pos rfl, cntM_other dst e]
  l0 := fun i hi => by
    rw [upd_same]
    by_cases e : i = k
    · subst e
      exact MsgAt.new (by rw [h.len (by omega), h.c0]; rfl)
    · exact (h.l0 i (by omega)).app
  l1 := fun i hi => by
    rw [upd_other _ _ (show 1 + 2 * dst i ≠ 0 from by omega), upd_other _ _ (show 1 + 2 * dst i ≠ 2 + 2 * dst k from by omega)]
    by_cases e : i = k
    · subst e
      rw [upd_same]
      exact MsgAt.new (by rw [h.len (by omega), h.c1 _ hd, rsz1])
    · by_cases e2 : dst i = dst k
      · rw [e2, upd_same, ← e2]; exact (h.l1 i (by omega)).app
      · rw [upd_other _ _ (show 1 + 2 * dst i ≠ 1 + 2 * dst k from by omega)]; exact h.l1 i (by omega)
  l2 := fun _ i hi => by
    rw [upd_other _ _ (show 2 + 2 * dst i ≠ 0 from by omega)]
    by_cases e : i = k
    · subst e
      rw [upd_same]
      exact StAt.new (by rw [h.len (by omega), h.c2 _ hd, if_pos rfl, rsz2]) hz
    · by_cases e2 : dst i = dst k
      · rw [e2, upd_same, ← e2]; exact (h.l2 rfl i (by omega)).app hl
      · rw [upd_other _ _ (show 2 + 2 * dst i ≠ 2 + 2 * dst k from by omega), upd_other _ _ (show 2 + 2 * dst i ≠ 1 + 2 * dst k from by omega)]; exact (h.l2 rfl i (by omega)).link hl

/-- One Send of the script. -/
def SentPost (B : Nat) (w0 w : World) (tg : Nat → Nat × Nat) (N Bx Bsys Bmap fr : Nat) (nodes : Value) (nb : Nat → Nat) (S : Nat → ByteArray) (tr : Bool) (Bt Bc K cK : Nat) (wl : Nat) (WZ : Nat → Int) (dst : Nat → Nat) (T : Nat → ByteArray) (Q : Nat → Int) (ms : Int) (k : Nat) (e : Ending) (w' : World) : Prop :=
  e = .returned (.tuple #[]) ∧ ∃ tg' val' cnt' cs', Link3 tg w tg' w' ∧ Sent B w0 w' tg' N Bx Bsys Bmap fr nodes nb S tr Bt Bc K cK wl WZ dst T Q ms k val' cnt' cs'
theorem zzSend_any {B : Nat} {w0 w : World} {tg : Nat → Nat × Nat} {N Bx Bsys Bmap fr : Nat} {nodes : Value} {nb : Nat → Nat} {S : Nat → ByteArray} {tr : Bool} {Bt Bc K cK wl : Nat} {WZ : Nat → Int} {dst : Nat → Nat} {T : Nat → ByteArray} {Q : Nat → Int} {ms : Int} {k : Nat} {val : Nat → Value} {cnt : Nat → Nat} {cs : Nat → List Value}
    (h : Sent B w0 w tg N Bx Bsys Bmap fr nodes nb S tr Bt Bc K cK wl WZ dst T Q ms k val cnt cs) (hsz : (T k).size ≤ maxLen) (hto : lastN S N (T k) = some (dst k)) (hk : k ≤ 4096) :
    Calls Tryf.prog 15 #[.pointer (some ⟨Bx, 0, none⟩), .string (T k), .int .i64 (Q k)] w (SentPost B w0 w tg N Bx Bsys Bmap fr nodes nb S tr Bt Bc K cK wl WZ dst T Q ms (k + 1)) := by
  have hd : dst k < N := lastN_lt hto
  have hc := cntM_le dst k (dst k)
  refine zzSend_of ?_
  cases tr with
  | false =>
    refine (send_plain B w0 w tg N Bx Bsys Bmap fr nodes nb S (lastN S N) val cnt cs (T k) (Q k) (dst k) h.sys hsz hto (by rw [h.c1 _ hd]; omega) (by rw [h.c0]; omega)).mono fun e w' hp => ?_
    obtain ⟨he, tg', val', hl, hs⟩ := hp
    exact ⟨he, rfl, tg', val', _, _, hl.three, h.plain hd hs⟩
  | true =>
    obtain ⟨sa, sl, sc, st, ht⟩ := h.trc rfl
    refine (send_traced B w0 w tg N Bx Bsys Bmap fr nodes nb S (lastN S N) val cnt cs (T k) (Q k) (dst k) Bt Bc K cK sa sl sc st (msI ms k) wl WZ h.sys ht (by rw [h.c2 _ hd, if_pos rfl]; omega) hsz hto (by rw [h.c1 _ hd]; omega) (by rw [h.c0]; omega)).mono fun e w' hp => ?_
    obtain ⟨he, tg', val', b, c, hl, hz, ht', hs⟩ := hp
    exact ⟨he, rfl, tg', val', _, _, hl, h.traced hd hl hz ht' hs⟩
end Go.Proofs.Qxb6608660aFmt

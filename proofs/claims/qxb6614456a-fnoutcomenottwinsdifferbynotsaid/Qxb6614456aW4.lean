/- My own work on the program: the map of facts, keyed by (key, tag). -/
import Derived.Test.Qxb6614456aW3
import Derived.DeepKeys5
import Derived.Maps.OwnSet
namespace Go.Proofs.Qxb6614456a
open Go.RowKit
open Go.Maps (Keyed IsMap)
set_option linter.unusedVariables false
set_option linter.unusedSimpArgs false

theorem laidOut : laidOutB Try.prog = true := by kernel_rfl
theorem law85 : Keyed Try.prog 85 := Maps.Keyed.of_law (deep_law_gate laidOut (of_decide_eq_true (by kernel_rfl)) (of_decide_eq_true (by kernel_rfl)) (by kernel_rfl) (by kernel_rfl))
theorem Try.cells85 : Try.prog.cellsOf 85 = 2 := by kernel_rfl
theorem Try.cells3 : Try.prog.cellsOf 3 = 1 := by kernel_rfl
theorem Try.cells9 : Try.prog.cellsOf 9 = 1 := by kernel_rfl
/-- The key as a datum. -/
def keyK (k : Int) (s : ByteArray) : Lit := .string (keyBytes [.int .i64 k, .string s.data.toList])
theorem keyLits_fact (d : Nat) (k : Int) (s : ByteArray) (hw : (Lit.int .i64 k).wf = true) (hs : s.size ≤ maxLen) : Try.prog.keyLits (d + 1 + 1) 85 [.int .i64 k, .string s] = some [.int .i64 k, .string s.data.toList] := by
  have e3 : Try.prog.keyLits (d + 1) 3 [.int .i64 k] = some [.int .i64 k] := by unfold Program.keyLits; simp only [Try.underlying3]; simp [hw]
  have e9 : Try.prog.keyLits (d + 1) 9 [.string s] = some [.string s.data.toList] := by unfold Program.keyLits; simp only [Try.underlying9]; simp [hs]
  unfold Program.keyLits
  simp only [Try.underlying85]
  simp [Try.cells85, Try.cells3, Try.cells9, e3, e9]
theorem keyOf_fact (k : Int) (s : ByteArray) (hk : 0 ≤ k ∧ k < 49) (hs : s.size ≤ maxLen) : keyOf Try.prog 85 (.agg #[.int .i64 k, .string s]) = some (keyK k s) := by
  have hw : (Lit.int .i64 k).wf = true := by simp [Lit.wf, IntKind.min, IntKind.max, IntKind.signed, IntKind.bits]; omega
  have ht : Try.prog.keyType 85 = true := by kernel_rfl
  obtain ⟨d, hd⟩ : ∃ d, Try.prog.types.size + 1 = d + 1 + 1 := by
    have : 1 ≤ Try.prog.types.size := of_decide_eq_true (by kernel_rfl)
    exact ⟨Try.prog.types.size - 1, by omega⟩
  have hl := keyLits_fact d k s hw hs
  rw [← hd] at hl
  have hc : (Value.agg #[.int .i64 k, .string s]).cells.toList = [.int .i64 k, .string s] := rfl
  have hfm : (Value.agg #[.int .i64 k, .string s]).formed Try.prog 85 = true := by
    unfold Value.formed
    rw [Try.underlying85, Try.cells85]
    rfl
  unfold keyOf
  rw [Try.underlying85]
  simp only [ht, hfm, hc, hl, Bool.and_self, if_true, Option.map_some]
  rfl
theorem keyK_inj {k k' : Int} {s s' : ByteArray} (hk : 0 ≤ k ∧ k < 49) (hs : s.size ≤ maxLen) (hk' : 0 ≤ k' ∧ k' < 49) (hs' : s'.size ≤ maxLen) (h : keyK k s = keyK k' s') : k = k' ∧ s = s' := by
  have h1 := keyOf_fact k s hk hs
  have h2 := keyOf_fact k' s' hk' hs'
  rw [← h] at h2
  have := law85.inj h1 h2
  simpa using this
theorem keyK_lit (k : Int) (s : ByteArray) : WideAt.IsKeyLit (keyK k s) := True.intro

/-- A slice at the head of a block, read as three numbers. -/
def sliceR : Value → Option (DataW Unit × List MemPlace)
  | .slice (some ⟨b, 0, none⟩) l c => some (.agg [.lit (.int .i64 b), .lit (.int .i64 l), .lit (.int .i64 c)], [])
  | .slice none 0 0 => some (.nil, [])
  | _ => none
/-- The slice that a fact's listing gives. -/
def sv (o : Option (Nat × Nat)) : Value := match o with | some (b, l) => .slice (some ⟨b, 0, none⟩) l l | none => .slice none 0 0
def svD (o : Option (Nat × Nat)) : DataW Unit := match o with | some (b, l) => .agg [.lit (.int .i64 b), .lit (.int .i64 l), .lit (.int .i64 l)] | none => .nil
theorem sliceR_sv (o : Option (Nat × Nat)) : sliceR (sv o) = some (svD o, []) := by cases o <;> rfl
theorem sliceR_inv {v : Value} {o : Option (Nat × Nat)} {ps : List MemPlace} (h : sliceR v = some (svD o, ps)) : v = sv o := by
  unfold sliceR at h
  split at h
  · rename_i b l c
    cases o with
    | none => simp [svD] at h
    | some p =>
      obtain ⟨b', l'⟩ := p
      simp [svD] at h
      obtain ⟨⟨h1, h2, h3⟩, _⟩ := h
      have e1 := Int.natCast_inj.1 h1
      have e2 := Int.natCast_inj.1 h2
      have e3 := Int.natCast_inj.1 h3
      subst e1 e2 e3
      rfl
  · cases o with
    | none => rfl
    | some p => simp [svD] at h
  · simp at h

/-- Block b is a map of at most n entries; at the key (k, s) it gives what f says. -/
def MapK (w : World) (b n : Nat) (f : Int → ByteArray → Option (Nat × Nat)) : Prop :=
  ∃ D, w.ownsMap Try.prog 85 sliceR b n D ∧ IsMap D ∧ ∀ k s, 0 ≤ k ∧ k < 49 → s.size ≤ maxLen → D.atKey (keyK k s) .nil = svD (f k s)
theorem MapK.made (w : World) : MapK (w.alloc (.map #[] 0)) w.heap.size 0 (fun _ _ => none) :=
  ⟨_, World.ownsMap_made w _ _ _, ⟨[], rfl⟩, fun k s _ _ => rfl⟩
theorem MapK.of_block {w w' : World} {b n : Nat} {f : Int → ByteArray → Option (Nat × Nat)} (h : MapK w b n f) (hb : w'.heap[b]? = w.heap[b]?) : MapK w' b n f := by
  obtain ⟨D, ⟨es, clock, h1, h2, h3, h4⟩, hD, hf⟩ := h
  exact ⟨D, ⟨es, clock, hb.trans h1, h2, h3, h4⟩, hD, hf⟩
theorem MapK.lt {w : World} {b n : Nat} {f : Int → ByteArray → Option (Nat × Nat)} (h : MapK w b n f) : b < w.heap.size := by
  obtain ⟨D, h1, _⟩ := h
  exact h1.lt
theorem MapK.update {w : World} {b n : Nat} {f : Int → ByteArray → Option (Nat × Nat)} (h : MapK w b n f) (hn : n < maxLen) {k : Int} {s : ByteArray} (hk : 0 ≤ k ∧ k < 49) (hs : s.size ≤ maxLen) (q : Nat × Nat) :
    ∃ w', (Instr.mapUpdate 93 (.map (some b)) (.agg #[.int .i64 k, .string s]) (sv (some q))).run Try.prog w = .ok () w' ∧ MapK w' b (n + 1) (fun x t => if x = k ∧ t = s then some q else f x t) ∧ w.grownBy w' (some b) := by
  obtain ⟨D, h1, hD, hf⟩ := h
  obtain ⟨w', hr, h2, h3⟩ := h1.update law85 Try.underlying93 hn (keyOf_fact k s hk hs) (sliceR_sv (some q))
  refine ⟨w', hr, ⟨_, h2, ?_, fun x t hx ht => ?_⟩, h3⟩
  · obtain ⟨es, rfl⟩ := hD
    exact ⟨_, rfl⟩
  · by_cases e : x = k ∧ t = s
    · obtain ⟨rfl, rfl⟩ := e
      show _ = svD (if x = x ∧ t = t then some q else f x t)
      rw [if_pos ⟨rfl, rfl⟩]
      exact Maps.atKey_put_same hD (keyK_lit x t) _ _
    · show _ = svD (if x = k ∧ t = s then some q else f x t)
      rw [if_neg e]
      have hne : keyK x t ≠ keyK k s := fun h => e (keyK_inj hx ht hk hs h)
      exact (Maps.atKey_put_other hne _ _).trans (hf x t hx ht)
theorem zero89 (w : World) : (zeroValue 89).run Try.prog w = .ok (.slice none 0 0) w := by kernel_rfl
theorem MapK.look {w : World} {b n : Nat} {f : Int → ByteArray → Option (Nat × Nat)} (h : MapK w b n f) {k : Int} {s : ByteArray} (hk : 0 ≤ k ∧ k < 49) (hs : s.size ≤ maxLen) :
    (Instr.lookup 93 (.map (some b)) (.agg #[.int .i64 k, .string s]) false).run Try.prog w = .ok (sv (f k s)) w := by
  obtain ⟨D, h1, hD, hf⟩ := h
  obtain ⟨v, ps, hr, hv⟩ := h1.lookup law85 Try.underlying93 (zero89 w) (show sliceR (.slice none 0 0) = some (.nil, []) from rfl) (keyOf_fact k s hk hs)
  rw [hf k s hk hs] at hv
  rw [sliceR_inv hv] at hr
  exact hr
end Go.Proofs.Qxb6614456a

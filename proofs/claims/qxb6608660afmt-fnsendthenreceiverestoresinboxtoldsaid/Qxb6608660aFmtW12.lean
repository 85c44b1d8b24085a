import Derived.Test.Qxb6608660aFmtW11
import Derived.Deep.AppendLies
import Derived.Maps.OwnSet
import Derived.Laws.AppendOwnNone
import Derived.Deep.MidRow
namespace Go.Proofs.Qxb6608660aFmt
open Go.RowKit
set_option linter.unusedSimpArgs false
set_option linter.unusedVariables false

/-- The system's cells. -/
def sysCells (nodes byName trace sent : Value) : Array Value :=
  #[nodes, byName, .slice none 0 0, .slice none 0 0, .slice none 0 0, .nilFunc, .int .u64 0, .pointer none, .pointer none, sent, .slice none 0 0, .nilFunc, trace, .pointer none, .pointer none, .int .u8 0, .int .i64 0, .slice none 0 0, .int .i64 0, .int .i64 0, .int .i64 0, .slice none 0 0, .int .i64 0, .int .i64 0, .slice none 0 0, .slice none 0 0]

set_option maxRecDepth 100000 in
set_option maxHeartbeats 400000 in
theorem newSystem_any (a : Option Addr) (n c b : Nat) (p : Option Addr) (a1 : Option Addr) (n1 c1 : Nat) (w : World) :
    Calls Tryf.prog 11 #[.slice a n c, .map (some b), .pointer p, .slice a1 n1 c1] w fun e w' => e = .returned (.pointer (some ⟨w.heap.size, 0, none⟩)) ∧ w' = w.alloc (.cells (sysCells (.slice a n c) (.map (some b)) (.pointer p) (.slice a1 n1 c1)) 93) := by
  go_enter Tryf.func11, Tryf.ntmps11
  go_wp2
  go_ret
  exact ⟨rfl, rfl⟩

set_option maxRecDepth 100000 in
set_option maxHeartbeats 400000 in
theorem newContext_any (p q : Option Addr) (w : World) :
    Calls Tryf.prog 14 #[.pointer p, .pointer q] w fun e w' => e = .returned (.pointer (some ⟨w.heap.size, 0, none⟩)) ∧ w' = w.alloc (.cells #[.pointer p, .pointer q] 81) := by
  go_enter Tryf.func14, Tryf.ntmps14
  go_wp2
  go_ret
  exact ⟨rfl, rfl⟩

/-- The tracer's cells. -/
def trCells (clocks sentAt : Value) (sent ms : Int) : Array Value := #[.slice none 0 0, clocks, sentAt, .int .i64 0, .int .i64 sent, .int .i64 ms, .nilFunc, .slice none 0 0]

set_option maxRecDepth 100000 in
set_option maxHeartbeats 400000 in
theorem newTracer_any (a : Option Addr) (n c : Nat) (a1 : Option Addr) (n1 c1 : Nat) (ms : Int) (w : World) :
    Calls Tryf.prog 27 #[.slice a n c, .slice a1 n1 c1, .int .i64 ms] w fun e w' => e = .returned (.pointer (some ⟨w.heap.size, 0, none⟩)) ∧ w' = w.alloc (.cells (trCells (.slice a n c) (.slice a1 n1 c1) 0 ms) 113) := by
  go_enter Tryf.func27, Tryf.ntmps27
  go_wp2
  go_ret
  exact ⟨rfl, rfl⟩

set_option maxHeartbeats 400000 in
theorem sysSent_any (b : Nat) (v : Value) (w : World) (hv : w.cell? ⟨b, 9, none⟩ = some v) :
    Calls Tryf.prog 21 #[.pointer (some ⟨b, 0, none⟩)] w fun e w' => e = .returned v ∧ w' = w := by
  go_enter Tryf.func21, Tryf.ntmps21
  go_wp2
  go_ret
  exact ⟨rfl, rfl⟩

/-! ### slices.Clone -/
set_option maxRecDepth 100000 in
set_option maxHeartbeats 400000 in
theorem clone_any (a : Option Addr) (n c : Nat) (Z : Nat → Int) (w : World) (hn : n ≤ 1048576) (hnil : a = none → n = 0) (ha : IntsAt w a n Z) :
    Calls Tryf.prog 41 #[.slice a n c] w (ClonePost w a n Z) := by
  have heq := fun wx => Lib.run_eql_slice_nil (P := Tryf.prog) wx 50 3 a n c 0 0 Tryf.underlying50
  by_cases hz : a = none
  · subst hz
    obtain rfl := hnil rfl
    go_enter Tryf.func41, Tryf.ntmps41
    go_wp2
    go_ret
    exact ⟨none, 0, rfl, Below.refl _ _, Iff.rfl, fun i hi => absurd hi (by omega)⟩
  · have hs : a.isNone = false := by cases a <;> simp_all
    obtain ⟨ad, rfl⟩ : ∃ ad, a = some ad := by cases a with
      | none => exact absurd rfl hz
      | some x => exact ⟨x, rfl⟩
    obtain ⟨i0, hi0, hz0, hz1, hz2⟩ := info_parts Tryf.info3
    have hnews : Hid (∀ j u, ((List.range n).map (fun i => Value.int .i64 (Z i)))[j]? = some u → (w.alloc (.cells #[] 3)).cell? (ad.add j) = some u) := by
      intro j u hu
      have hj : j < n := by have := (List.getElem?_eq_some_iff.1 hu).1; simpa using this
      simp [hj] at hu
      obtain ⟨x, o, e, hc⟩ := ha j hj
      simp at e
      subst e
      rw [Addr.add_mid, ← hu]
      exact farA hc
    have hone : Hid (∀ u ∈ (List.range n).map (fun i => Value.int .i64 (Z i)), u.oneCell' = true) := by
      intro u hu
      obtain ⟨x, _, rfl⟩ := List.mem_map.1 hu
      rfl
    have hown0 : Hid ((w.alloc (.cells #[] 3)).ownsRow w.heap.size 3 1 (.slice (some ⟨w.heap.size, 0, none⟩) 0 0) 0 []) := World.ownsRow_made w #[] 0 (Nat.le_refl _) (Nat.zero_le _) rfl
    clear ha hnil hz
    go_enter Tryf.func41, Tryf.ntmps41
    go_wp2_with (at_builtin; refine wpList_append_own _ rfl (.tmp 5) (.tmp 6) 50 rfl w.heap.size 3 i0 (.int .i64 0) 1 8 Tryf.underlying50 hi0 hz0 hz1 hz2 rfl (by decide) (.slice (some ⟨w.heap.size, 0, none⟩) 0 0) 0 [] rfl hown0.out ad n c ((List.range n).map (fun i => Value.int .i64 (Z i))) rfl (by simp) hnews.out hone.out (by unfold maxLen; omega) (by omega) (by simp) ?_; intro v' w1 hown' hgrow hnil')
    go_ret
    have hv : v' ≠ .slice none 0 0 := fun e => by have h2 := (hnil'.1 e).1; cases h2
    rcases hown'.2 with ⟨e, _⟩ | ⟨g, cap, cur, rfl, hg, hcell, h1, h2, h3, h4⟩
    · exact absurd e hv
    · simp only [Nat.zero_add] at h1 h2 h3 h4 hown' ⊢
      refine ⟨some ⟨g, 0, none⟩, cap, rfl, ?_, by simp, fun i hi => ⟨g, 0, rfl, hg, ?_⟩⟩
      · exact ((Below.refl _ _).alloc (Nat.le_refl _) _).grown hgrow (by simp) (fun k hk => by cases hk; exact Nat.le_refl _)
      · rw [Nat.zero_add, hown'.cellAt i (by omega)]
        simp [hi]

/-! ### Maps keyed by strings -/
open Go.Maps (Keyed IsMap)
open Go.WideMaps (keyOf_string_mk)

theorem Tryf.law : Keyed Tryf.prog 9 := Maps.string_keyed Tryf.underlying9
def keyS (s : ByteArray) : Lit := .string s.data.toList
theorem keyS_inj {s t : ByteArray} (h : keyS s = keyS t) : s = t := by
  cases s with | mk a => cases t with | mk b =>
  simp [keyS] at h
  obtain ⟨l⟩ := a
  obtain ⟨m⟩ := b
  simp at h
  rw [h]
theorem keyS_lit (s : ByteArray) : WideAt.IsKeyLit (keyS s) := True.intro

/-- Block b is a map of at most n entries; at the key s it holds what f says (read by R as a number). -/
def MapIs (w : World) (R : Value → Option (DataW Unit × List MemPlace)) (b n : Nat) (f : ByteArray → Option Nat) : Prop :=
  ∃ D, w.ownsMap Tryf.prog 9 R b n D ∧ IsMap D ∧ ∀ s, (f s = none → Maps.has D (keyS s) = false) ∧ ∀ d, f s = some d → Maps.has D (keyS s) = true ∧ ∀ z, D.atKey (keyS s) z = .lit (.int .i64 d)

theorem MapIs.made (w : World) (R : Value → Option (DataW Unit × List MemPlace)) : MapIs (w.alloc (.map #[] 0)) R w.heap.size 0 (fun _ => none) :=
  ⟨_, World.ownsMap_made w _ _ _, ⟨[], rfl⟩, fun s => ⟨fun _ => rfl, fun d h => by cases h⟩⟩

theorem MapIs.of_block {w w' : World} {R : Value → Option (DataW Unit × List MemPlace)} {b n : Nat} {f : ByteArray → Option Nat} (h : MapIs w R b n f) (hb : w'.heap[b]? = w.heap[b]?) : MapIs w' R b n f := by
  obtain ⟨D, ⟨es, clock, h1, h2, h3, h4⟩, hD, hf⟩ := h
  exact ⟨D, ⟨es, clock, hb.trans h1, h2, h3, h4⟩, hD, hf⟩
theorem MapIs.lt {w : World} {R : Value → Option (DataW Unit × List MemPlace)} {b n : Nat} {f : ByteArray → Option Nat} (h : MapIs w R b n f) : b < w.heap.size := by
  obtain ⟨D, h1, _⟩ := h
  exact h1.lt

theorem MapIs.update {w : World} {R : Value → Option (DataW Unit × List MemPlace)} {b n : Nat} {f : ByteArray → Option Nat} {t e : TypeId} (h : MapIs w R b n f) (ht : Tryf.prog.underlying t = some (.map 9 e)) (hn : n < maxLen) {s : ByteArray} (hs : s.size ≤ maxLen) {v : Value} {d : Nat} (hv : R v = some (.lit (.int .i64 d), [])) :
    ∃ w', (Instr.mapUpdate t (.map (some b)) (.string s) v).run Tryf.prog w = .ok () w' ∧ MapIs w' R b (n + 1) (fun x => if x = s then some d else f x) ∧ w.grownBy w' (some b) := by
  obtain ⟨D, h1, hD, hf⟩ := h
  obtain ⟨w', hr, h2, h3⟩ := h1.update Tryf.law ht hn (keyOf_string_mk Tryf.underlying9 hs) hv
  refine ⟨w', hr, ⟨_, h2, ?_, fun x => ?_⟩, h3⟩
  · obtain ⟨es, rfl⟩ := hD
    exact ⟨_, rfl⟩
  · by_cases e : x = s
    · subst e
      refine ⟨fun h => by simp at h, fun d' h => ?_⟩
      simp at h
      subst h
      exact ⟨Maps.has_put_same hD (keyS_lit x) _, fun z => Maps.atKey_put_same hD (keyS_lit x) _ z⟩
    · have hne : keyS x ≠ keyS s := fun h => e (keyS_inj h)
      simp only [if_neg e]
      refine ⟨fun h => ?_, fun d' h => ⟨?_, fun z => ?_⟩⟩
      · exact (Maps.has_put_other hne _).trans ((hf x).1 h)
      · exact (Maps.has_put_other hne _).trans ((hf x).2 d' h).1
      · exact (Maps.atKey_put_other hne _ z).trans (((hf x).2 d' h).2 z)

theorem MapIs.look {w : World} {R : Value → Option (DataW Unit × List MemPlace)} {b n : Nat} {f : ByteArray → Option Nat} {t e : TypeId} (h : MapIs w R b n f) (ht : Tryf.prog.underlying t = some (.map 9 e)) {z : Value} (hz : (zeroValue e).run Tryf.prog w = .ok z w) {zd : DataW Unit} {zp : List MemPlace} (hzd : R z = some (zd, zp))
    {s : ByteArray} (hs : s.size ≤ maxLen) : ∃ v ps, (Instr.lookup t (.map (some b)) (.string s) true).run Tryf.prog w = .ok (.tuple #[v, .bool (f s).isSome]) w ∧ ∀ d, f s = some d → R v = some (.lit (.int .i64 d), ps) := by
  obtain ⟨D, h1, hD, hf⟩ := h
  obtain ⟨v, ps, hr, hv⟩ := h1.look_ok Tryf.law ht hz hzd (keyOf_string_mk Tryf.underlying9 hs)
  refine ⟨v, ps, ?_, fun d hd => ?_⟩
  · cases hc : f s with
    | none => rw [show (Lit.string s.data.toList) = keyS s from rfl, (hf s).1 hc] at hr; exact hr
    | some d => rw [show (Lit.string s.data.toList) = keyS s from rfl, ((hf s).2 d hc).1] at hr; exact hr
  · rw [show (Lit.string s.data.toList) = keyS s from rfl, ((hf s).2 d hd).2 zd] at hv; exact hv

theorem MapIs.look1 {w : World} {R : Value → Option (DataW Unit × List MemPlace)} {b n : Nat} {f : ByteArray → Option Nat} {t e : TypeId} (h : MapIs w R b n f) (ht : Tryf.prog.underlying t = some (.map 9 e)) {z : Value} (hz : (zeroValue e).run Tryf.prog w = .ok z w) {zd : DataW Unit} {zp : List MemPlace} (hzd : R z = some (zd, zp))
    {s : ByteArray} (hs : s.size ≤ maxLen) {d : Nat} (hd : f s = some d) : ∃ v ps, (Instr.lookup t (.map (some b)) (.string s) false).run Tryf.prog w = .ok v w ∧ R v = some (.lit (.int .i64 d), ps) := by
  obtain ⟨D, h1, hD, hf⟩ := h
  obtain ⟨v, ps, hr, hv⟩ := h1.lookup Tryf.law ht hz hzd (keyOf_string_mk Tryf.underlying9 hs)
  exact ⟨v, ps, hr, by rw [show (Lit.string s.data.toList) = keyS s from rfl, ((hf s).2 d hd).2 zd] at hv; exact hv⟩

theorem MapIs.len {w : World} {R : Value → Option (DataW Unit × List MemPlace)} {b n : Nat} {f : ByteArray → Option Nat} {t e : TypeId} (h : MapIs w R b n f) (ht : Tryf.prog.underlying t = some (.map 9 e)) : ∃ m : Nat, ∀ ty, (Builtin.len_ #[t] ty #[.map (some b)]).run Tryf.prog w = .ok (.int .i64 m) w := by
  obtain ⟨D, h1, _⟩ := h
  exact ⟨_, fun ty => h1.len ht ty⟩

/-- A pointer to the head of a block, read as the block's number. -/
def ptrR : Value → Option (DataW Unit × List MemPlace)
  | .pointer (some ⟨b, 0, none⟩) => some (.lit (.int .i64 b), [])
  | .pointer none => some (.nil, [])
  | _ => none
theorem ptrR_mk (b : Nat) : ptrR (.pointer (some ⟨b, 0, none⟩)) = some (.lit (.int .i64 b), []) := rfl
theorem ptrR_inv {v : Value} {d : Nat} {ps : List MemPlace} (h : ptrR v = some (.lit (.int .i64 d), ps)) : v = .pointer (some ⟨d, 0, none⟩) := by
  unfold ptrR at h
  split at h
  · simp at h; obtain ⟨h, _⟩ := h; rw [Int.natCast_inj.1 h]
  · simp at h
  · simp at h

/-- 'make(map[string]T, n)'. -/
theorem run_makeMap_hint (t e : TypeId) (ht : Tryf.prog.underlying t = some (.map 9 e)) (n : Int) (w : World) : (Instr.makeMap t (some (.int .i64 n))).run Tryf.prog w = .ok (.map (some w.heap.size)) (w.alloc (.map #[] 0)) := by
  simp [Instr.makeMap, run_underlying ht, asInt, asIntOf, Result.andThen]

theorem zero44 (w : World) : (zeroValue 44).run Tryf.prog w = .ok (.pointer none) w := by kernel_rfl

set_option maxHeartbeats 400000 in
theorem lookup_any (bs bm n : Nat) (f : ByteArray → Option Nat) (s : ByteArray) (d : Nat) (w : World) (hc : w.cell? ⟨bs, 1, none⟩ = some (.map (some bm))) (hm : MapIs w ptrR bm n f) (hs : s.size ≤ maxLen) (hd : f s = some d) :
    Calls Tryf.prog 36 #[.pointer (some ⟨bs, 0, none⟩), .string s] w fun e w' => e = .returned (.pointer (some ⟨d, 0, none⟩)) ∧ w' = w := by
  obtain ⟨v, ps, hr, hv⟩ := hm.look (t := 33) (e := 44) Tryf.underlying33 (zero44 w) rfl hs
  obtain rfl := ptrR_inv (hv d hd)
  rw [hd] at hr
  clear hm hv
  simp only [Option.isSome_some] at hr
  go_enter Tryf.func36, Tryf.ntmps36
  go_wp2
  go_ret
  exact ⟨rfl, rfl⟩

end Go.Proofs.Qxb6608660aFmt

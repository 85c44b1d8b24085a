/- My own work on the program: the tracer in the system's memory. -/
import Derived.Test.Qxb6608660aFmtW15
namespace Go.Proofs.Qxb6608660aFmt
open Go.RowKit
set_option linter.unusedSimpArgs false
set_option linter.unusedVariables false

/-- Numbers that lie in blocks that stand still. -/
def CInts (w : World) (tg : Nat → Nat × Nat) (a : Option Addr) (n : Nat) (Z : Nat → Int) : Prop :=
  ∀ i, i < n → ∃ x o, a = some ⟨x, o, none⟩ ∧ w.cell? ⟨x, o + i, none⟩ = some (.int .i64 (Z i)) ∧ tg x = (4, 0)
theorem CInts.at {w : World} {tg : Nat → Nat × Nat} {a : Option Addr} {n : Nat} {Z : Nat → Int} (h : CInts w tg a n Z) : IntsAt w a n Z := fun i hi => by
  obtain ⟨x, o, e, h1, _⟩ := h i hi
  exact ⟨x, o, e, h1⟩

/-- The system's and the tracer's blocks. -/
def Link3 (tg : Nat → Nat × Nat) (w : World) (tg' : Nat → Nat × Nat) (w' : World) : Prop := (∀ b, b < w.heap.size → tg' b = tg b) ∧ Only (fun b => Moved tg b ∨ (tg b).1 = 3) w w'
theorem Link.three {tg tg1 : Nat → Nat × Nat} {w w1 : World} (h : Link tg w tg1 w1) : Link3 tg w tg1 w1 := ⟨h.1, h.2.mono fun _ e => .inl e⟩
theorem Link3.trans {tg tg1 tg2 : Nat → Nat × Nat} {w w1 w2 : World} (h : Link3 tg w tg1 w1) (k : Link3 tg1 w1 tg2 w2) : Link3 tg w tg2 w2 :=
  ⟨fun b hb => (k.1 b (Nat.lt_of_lt_of_le hb h.2.size)).trans (h.1 b hb), k.2.os.trans h.2.os, k.2.tape.trans h.2.tape, k.2.output.trans h.2.output, Nat.le_trans h.2.size k.2.size,
    fun b hb hp => (k.2.block b (Nat.lt_of_lt_of_le hb h.2.size) (fun e => hp (by show (_ ∨ _ ∨ _) ∨ _; rw [← h.1 b hb]; exact e))).trans (h.2.block b hb hp)⟩
theorem Link3.still {tg tg1 : Nat → Nat × Nat} {w w1 : World} (h : Link3 tg w tg1 w1) {b : Nat} (hb : b < w.heap.size) (ht : (tg b).1 = 4 ∨ (tg b).1 = 7) : w1.heap[b]? = w.heap[b]? :=
  h.2.block b hb (fun e => by rcases e with (e | e | e) | e <;> omega)
theorem Link3.row {tg tg1 : Nat → Nat × Nat} {w w1 : World} (h : Link3 tg w tg1 w1) {b n : Nat} {t : TypeId} {f : Nat → Value} (hr : w.rowIs b t n f) (ht : (tg b).1 = 4 ∨ (tg b).1 = 7) : w1.rowIs b t n f := hr.of_block (h.still hr.lt ht)
theorem CInts.link {w w' : World} {tg tg' : Nat → Nat × Nat} {a : Option Addr} {n : Nat} {Z : Nat → Int} (h : CInts w tg a n Z) (hl : Link3 tg w tg' w') : CInts w' tg' a n Z := fun i hi => by
  obtain ⟨x, o, e, h1, h2⟩ := h i hi
  have hx : x < w.heap.size := World.block_lt_of_cell? w _ h1
  exact ⟨x, o, e, (World.cell?_of_block (a := ⟨x, o + i, none⟩) (hl.still hx (by rw [h2]; exact .inl rfl))).trans h1, (hl.1 x hx).trans h2⟩

/-- The tracer; wl, WZ: the clock that the event's stamps bear. -/
structure TrIn (w : World) (tg : Nat → Nat × Nat) (Bt Bc K cK fr : Nat) (sa : Option Addr) (sl sc : Nat) (st ms : Int) (wl : Nat) (WZ : Nat → Int) : Prop where
  row : w.rowIs Bt 113 8 (trF (.slice (some ⟨Bc, 0, none⟩) K cK) (.slice sa sl sc) st ms)
  gt : tg Bt = (3, 0)
  gc : tg Bc = (4, 0)
  lc : Bc < w.heap.size
  hfr : fr < K
  hK : K ≤ 1048576
  hwl : wl ≤ 1048576
  hs : sa ≠ none → sl = wl ∧ CInts w tg sa wl WZ
  hn : sa = none → ∃ ca cc, w.cell? ⟨Bc, fr, none⟩ = some (.slice ca wl cc) ∧ CInts w tg ca wl WZ ∧ (ca = none → wl = 0)

theorem TrIn.link {w w' : World} {tg tg' : Nat → Nat × Nat} {Bt Bc K cK fr : Nat} {sa : Option Addr} {sl sc : Nat} {st ms : Int} {wl : Nat} {WZ : Nat → Int} (h : TrIn w tg Bt Bc K cK fr sa sl sc st ms wl WZ) (hl : Link tg w tg' w') : TrIn w' tg' Bt Bc K cK fr sa sl sc st ms wl WZ where
  row := h.row.of_block (hl.2.block _ h.row.lt (fun e => by rcases e with e | e | e <;> rw [h.gt] at e <;> cases e))
  gt := (hl.1 _ h.row.lt).trans h.gt
  gc := (hl.1 _ h.lc).trans h.gc
  lc := Nat.lt_of_lt_of_le h.lc hl.2.size
  hfr := h.hfr
  hK := h.hK
  hwl := h.hwl
  hs := fun e => ⟨(h.hs e).1, (h.hs e).2.link hl.three⟩
  hn := fun e => by
    obtain ⟨ca, cc, h1, h2, h3⟩ := h.hn e
    have hx : Bc < w.heap.size := World.block_lt_of_cell? w _ h1
    exact ⟨ca, cc, (World.cell?_of_block (a := ⟨Bc, fr, none⟩) (hl.three.still hx (by rw [h.gc]; exact .inl rfl))).trans h1, h2.link hl.three, h3⟩

/-- What the tracer's stamp hands back and leaves. -/
def StampAll (w : World) (tg : Nat → Nat × Nat) (Bt Bc K cK fr : Nat) (st ms : Int) (wl : Nat) (WZ : Nat → Int) (e : Ending) (w' : World) : Prop :=
  ∃ tg' b c, (∀ b, b < w.heap.size → tg' b = tg b) ∧ e = .returned (.agg #[.slice b wl c, .int .i64 (wrap64 (ms + 1))]) ∧ CInts w' tg' b wl WZ ∧ TrIn w' tg' Bt Bc K cK fr b wl c (wrap64 (st + 1)) (wrap64 (ms + 1)) wl WZ ∧ Only (· = Bt) w w'
theorem stamp_any (w : World) (tg : Nat → Nat × Nat) (Bt Bc K cK fr Bf : Nat) (sa : Option Addr) (sl sc : Nat) (st ms : Int) (wl : Nat) (WZ : Nat → Int) (h : TrIn w tg Bt Bc K cK fr sa sl sc st ms wl WZ) (hf : w.cell? ⟨Bf, 1, none⟩ = some (.int .i64 fr)) (hft : Bf ≠ Bt) :
    Calls Tryf.prog 37 #[.pointer (some ⟨Bt, 0, none⟩), .pointer (some ⟨Bf, 0, none⟩)] w (StampAll w tg Bt Bc K cK fr st ms wl WZ) := by
  have hct : Bc ≠ Bt := fun e => by have := h.gc; rw [e, h.gt] at this; cases this
  obtain ⟨tg', htg⟩ : ∃ tg' : Nat → Nat × Nat, tg' = fun b => if b < w.heap.size then tg b else (4, 0) := ⟨_, rfl⟩
  have ht1 : ∀ b, b < w.heap.size → tg' b = tg b := fun b hb => by rw [htg]; exact if_pos hb
  have ht2 : ∀ b, w.heap.size ≤ b → tg' b = (4, 0) := fun b hb => by rw [htg]; exact if_neg (by omega)
  have hl3 : ∀ w', Only (· = Bt) w w' → Link3 tg w tg' w' := fun w' ho => ⟨ht1, ho.mono (fun b e => .inr (by rw [e, h.gt]))⟩
  cases sa with
  | some sa =>
    obtain ⟨rfl, hcz⟩ := h.hs (by simp)
    refine (stamp_some w Bt Bf _ sa sl sc st ms none 0 WZ h.row).mono fun e w' hp => ?_
    obtain ⟨b, l, c, rfl, hrow, ho, h1, h2⟩ := hp
    obtain ⟨rfl, rfl, rfl⟩ := h1 (by simp)
    have hz := hcz.link (hl3 w' ho)
    exact ⟨tg', some sa, c, ht1, rfl, hz, ⟨hrow, (ht1 _ h.row.lt).trans h.gt, (ht1 _ h.lc).trans h.gc, Nat.lt_of_lt_of_le h.lc ho.size, h.hfr, h.hK, h.hwl, fun _ => ⟨rfl, hz⟩, fun e => by cases e⟩, ho⟩
  | none =>
    obtain ⟨ca, cc, hc, hcz, hcn⟩ := h.hn rfl
    refine (stamp_nil w Bt Bf Bc K cK fr sl sc st ms ca wl cc WZ h.row hf h.hfr h.hK hc h.hwl hcn hcz.at hft hct).mono fun e w' hp => ?_
    obtain ⟨b, l, c, rfl, hrow, ho, h1, h2⟩ := hp
    obtain ⟨rfl, hbn, hif⟩ := h2 rfl
    have hz : CInts w' tg' b l WZ := fun i hi => by
      obtain ⟨x, o, e, hx, hcx⟩ := hif i hi
      exact ⟨x, o, e, hcx, ht2 x hx⟩
    refine ⟨tg', b, c, ht1, rfl, hz, ⟨hrow, (ht1 _ h.row.lt).trans h.gt, (ht1 _ h.lc).trans h.gc, Nat.lt_of_lt_of_le h.lc ho.size, h.hfr, h.hK, h.hwl, fun _ => ⟨rfl, hz⟩, fun e => ?_⟩, ho⟩
    exact ⟨ca, cc, (World.cell?_of_block (a := ⟨Bc, fr, none⟩) (ho.block _ h.lc hct)).trans hc, hcz.link (hl3 w' ho), hcn⟩
end Go.Proofs.Qxb6608660aFmt

/- My own work on the program: the rows that ZZoutcome fills: conditions, listings of facts. -/
import Derived.Test.Qxb6614456aW7
import Derived.BigRegion
import Derived.Carry
namespace Go.Proofs.Qxb6614456a
open Go.RowKit
set_option linter.unusedVariables false
set_option linter.unusedSimpArgs false

theorem run_make_rows {P : Program} (t e : TypeId) (z : Value) (size bytes : Nat) (ht : P.underlying t = some (.slice e)) (hinfo : (P.info? e).map (fun i => (i.zero, i.size, i.bytes)) = some (some z, size, bytes))
    (kl kc : IntKind) (n : Nat) (hbytes : bytes * n ≤ 281474976710656) (h63 : n ≤ 9223372036854775807) (w : World) :
    (Instr.makeSlice t (.int kl (n : Int)) (.int kc (n : Int))).run P w = .ok (.slice (some ⟨w.heap.size, 0, none⟩) n n) (w.alloc (.cells (madeCells z.cells (n * size)) e)) := by
  obtain ⟨i, hi, hzz⟩ := Option.map_eq_some_iff.1 hinfo
  simp only [Prod.mk.injEq] at hzz
  obtain ⟨hz, rfl, rfl⟩ := hzz
  have hb' : (i.bytes : Int) * (n : Int) ≤ 281474976710656 := by
    have h : ((i.bytes * n : Nat) : Int) ≤ 281474976710656 := by omega
    rwa [Int.natCast_mul] at h
  have hr := run_make (P := P) w t e i z ht hi hz kl kc n n (by omega) (Int.le_refl _) hb' (by omega)
  simpa using hr
theorem rowIs_madeMany (w : World) (z : Array Value) (n : Nat) (t : TypeId) : ∃ f, (w.alloc (.cells (madeCells z n) t)).rowIs w.heap.size t n f := by
  refine ⟨fun i => (madeCells z n).getD i (.bool false), ?_⟩
  have := World.rowIs_alloc w (madeCells z n) t (fun i => (madeCells z n).getD i (.bool false)) (fun i hi => by simp [hi])
  rwa [size_madeCells] at this
theorem rowIs_lit (w : World) (c : Array Value) (t : TypeId) : (w.alloc (.cells c t)).rowIs w.heap.size t c.size (fun i => c.getD i (.bool false)) :=
  World.rowIs_alloc w c t _ (fun i hi => by simp [hi])
theorem Try.info91 : (Try.prog.info? 91).map (fun i => (i.zero, i.size, i.bytes)) = some (some (.agg #[.pointer none, .bool false, .bool false, .int .i64 0, .string { data := #[] }, .slice none 0 0, .slice none 0 0, .bool false, .string { data := #[] }, .string { data := #[] }]), 10, 128) := by kernel_rfl

/-- What the store of one condition leaves. -/
theorem cond_row {wr : World} {B n k : Nat} {f : Nat → Value} {a : Int} {b c d : ByteArray} (hrow : wr.rowIs B 91 (n * 10) f) :
    ∃ f', ((((((((((wr.setCell ⟨B, k * 10, none⟩ (.pointer none)).setCell ⟨B, k * 10 + 1, none⟩ (.bool false)).setCell ⟨B, k * 10 + 2, none⟩ (.bool false)).setCell ⟨B, k * 10 + 3, none⟩ (.int .i64 a)).setCell ⟨B, k * 10 + 4, none⟩ (.string b)).setCell ⟨B, k * 10 + 5, none⟩ (.slice none 0 0)).setCell ⟨B, k * 10 + 6, none⟩ (.slice none 0 0)).setCell ⟨B, k * 10 + 7, none⟩ (.bool false)).setCell ⟨B, k * 10 + 8, none⟩ (.string c)).setCell ⟨B, k * 10 + 9, none⟩ (.string d)).drew.rowIs B 91 (n * 10) f' ∧ (∀ i, i < k * 10 → f' i = f i) ∧ f' (k * 10 + 3) = .int .i64 a ∧ f' (k * 10 + 4) = .string b ∧ f' (k * 10 + 8) = .string c ∧ f' (k * 10 + 9) = .string d := by
  refine ⟨_, ((((((((((hrow.set (k * 10) _).set (k * 10 + 1) _).set (k * 10 + 2) _).set (k * 10 + 3) _).set (k * 10 + 4) _).set (k * 10 + 5) _).set (k * 10 + 6) _).set (k * 10 + 7) _).set (k * 10 + 8) _).set (k * 10 + 9) _).drew, fun i hi => ?_, ?_, ?_, ?_, ?_⟩
  · simp only [show ¬ i = k * 10 + 9 from by omega, show ¬ i = k * 10 + 8 from by omega, show ¬ i = k * 10 + 7 from by omega, show ¬ i = k * 10 + 6 from by omega, show ¬ i = k * 10 + 5 from by omega, show ¬ i = k * 10 + 4 from by omega, show ¬ i = k * 10 + 3 from by omega, show ¬ i = k * 10 + 2 from by omega, show ¬ i = k * 10 + 1 from by omega, show ¬ i = k * 10 from by omega, if_false]
  all_goals simp
theorem cond_below {wr W : World} {B C k : Nat} {a : Int} {b c d : ByteArray} (h : Below C W wr) (hB : C ≤ B) : Below C W ((((((((((wr.setCell ⟨B, k * 10, none⟩ (.pointer none)).setCell ⟨B, k * 10 + 1, none⟩ (.bool false)).setCell ⟨B, k * 10 + 2, none⟩ (.bool false)).setCell ⟨B, k * 10 + 3, none⟩ (.int .i64 a)).setCell ⟨B, k * 10 + 4, none⟩ (.string b)).setCell ⟨B, k * 10 + 5, none⟩ (.slice none 0 0)).setCell ⟨B, k * 10 + 6, none⟩ (.slice none 0 0)).setCell ⟨B, k * 10 + 7, none⟩ (.bool false)).setCell ⟨B, k * 10 + 8, none⟩ (.string c)).setCell ⟨B, k * 10 + 9, none⟩ (.string d)).drew :=
  ((((((((((h.setCell (p := ⟨B, k * 10, none⟩) hB _).setCell (p := ⟨B, k * 10 + 1, none⟩) hB _).setCell (p := ⟨B, k * 10 + 2, none⟩) hB _).setCell (p := ⟨B, k * 10 + 3, none⟩) hB _).setCell (p := ⟨B, k * 10 + 4, none⟩) hB _).setCell (p := ⟨B, k * 10 + 5, none⟩) hB _).setCell (p := ⟨B, k * 10 + 6, none⟩) hB _).setCell (p := ⟨B, k * 10 + 7, none⟩) hB _).setCell (p := ⟨B, k * 10 + 8, none⟩) hB _).setCell (p := ⟨B, k * 10 + 9, none⟩) hB _).drew
/-- The first k conditions lie in the row. -/
def CondsIn (I : Nat → Int) (T O K : Nat → ByteArray) (k : Nat) (f : Nat → Value) : Prop :=
  ∀ j, j < k → f (j * 10 + 3) = .int .i64 (I j) ∧ f (j * 10 + 4) = .string (T j) ∧ f (j * 10 + 8) = .string (O j) ∧ f (j * 10 + 9) = .string (K j)
theorem cond_step {wr : World} {B n k : Nat} {f : Nat → Value} {I : Nat → Int} {T O K : Nat → ByteArray} {a : Int} {b c d : ByteArray} (hrow : wr.rowIs B 91 (n * 10) f) (hf : CondsIn I T O K k f) (ea : a = I k) (eb : b = T k) (ec : c = O k) (ed : d = K k) :
    ∃ f', ((((((((((wr.setCell ⟨B, k * 10, none⟩ (.pointer none)).setCell ⟨B, k * 10 + 1, none⟩ (.bool false)).setCell ⟨B, k * 10 + 2, none⟩ (.bool false)).setCell ⟨B, k * 10 + 3, none⟩ (.int .i64 a)).setCell ⟨B, k * 10 + 4, none⟩ (.string b)).setCell ⟨B, k * 10 + 5, none⟩ (.slice none 0 0)).setCell ⟨B, k * 10 + 6, none⟩ (.slice none 0 0)).setCell ⟨B, k * 10 + 7, none⟩ (.bool false)).setCell ⟨B, k * 10 + 8, none⟩ (.string c)).setCell ⟨B, k * 10 + 9, none⟩ (.string d)).drew.rowIs B 91 (n * 10) f' ∧ CondsIn I T O K (k + 1) f' := by
  obtain ⟨f', h1, h2, h3, h4, h5, h6⟩ := cond_row (k := k) (a := a) (b := b) (c := c) (d := d) hrow
  refine ⟨f', h1, fun j hj => ?_⟩
  subst ea eb ec ed
  rcases (show j < k ∨ j = k from by omega) with e | rfl
  · rw [h2 _ (by omega), h2 _ (by omega), h2 _ (by omega), h2 _ (by omega)]
    exact hf j e
  · exact ⟨h3, h4, h5, h6⟩


/-- The last of the first k listings that is of the fact (x, t). -/
def lastF (FI : Nat → Int) (FT : Nat → ByteArray) : Nat → Int → ByteArray → Option Nat
  | 0, _, _ => none
  | k + 1, x, t => if FI k = x ∧ FT k = t then some k else lastF FI FT k x t
/-- The block and the length that the fact (x, t) has behind k listings. -/
def gives (FI : Nat → Int) (FT : Nat → ByteArray) (bl L : Nat → Nat) (k : Nat) (x : Int) (t : ByteArray) : Option (Nat × Nat) := (lastF FI FT k x t).map fun j => (bl j, L j)
theorem lastF_lt (FI : Nat → Int) (FT : Nat → ByteArray) : ∀ k x t j, lastF FI FT k x t = some j → j < k := by
  intro k
  induction k with
  | zero => intro x t j h; cases h
  | succ k ih =>
    intro x t j h
    rw [lastF] at h
    by_cases e : FI k = x ∧ FT k = t
    · rw [if_pos e] at h; cases h; omega
    · rw [if_neg e] at h; have := ih x t j h; omega
theorem gives_congr {FI : Nat → Int} {FT : Nat → ByteArray} {bl bl' L : Nat → Nat} {k : Nat} (h : ∀ j, j < k → bl' j = bl j) (x : Int) (t : ByteArray) : gives FI FT bl' L k x t = gives FI FT bl L k x t := by
  unfold gives
  cases e : lastF FI FT k x t with
  | none => rfl
  | some j => simp [h j (lastF_lt FI FT k x t j e)]
theorem gives_succ (FI : Nat → Int) (FT : Nat → ByteArray) (bl L : Nat → Nat) (k h : Nat) (x : Int) (t : ByteArray) :
    gives FI FT (fun j => if j = k then h else bl j) L (k + 1) x t = if x = FI k ∧ t = FT k then some (h, L k) else gives FI FT bl L k x t := by
  have hc := gives_congr (FI := FI) (FT := FT) (L := L) (k := k) (bl := bl) (bl' := fun j => if j = k then h else bl j) (fun j hj => if_neg (by omega)) x t
  by_cases e : x = FI k ∧ t = FT k
  · rw [if_pos e]
    unfold gives
    rw [lastF, if_pos ⟨e.1.symm, e.2.symm⟩]
    simp
  · rw [if_neg e, ← hc]
    unfold gives
    rw [lastF, if_neg (fun e' => e ⟨e'.1.symm, e'.2.symm⟩)]

theorem eS_empty : eS.toList.isEmpty = true := by
  unfold eS ByteArray.toList ByteArray.toList.loop
  simp [ByteArray.size]
/-- The cells of the facts' block. -/
def factsF (V : Nat → Value) (g mp : Value) (i : Nat) : Value := if i = 0 then .slice none 0 0 else if i < 50 then V (i - 1) else if i = 50 then g else mp

/-- What stands behind k listings: the keyed cells, the map, the listings' own rows. -/
structure FactsIn (V1 wr : World) (B1 : Nat) (FI : Nat → Int) (FT : Nat → ByteArray) (L : Nat → Nat) (X : Nat → Nat → ByteArray) (k : Nat) (bl : Nat → Nat) (g : Value) (gn : Nat) (gx : List Value) : Prop where
  row : wr.rowIs (B1 + 1) 96 52 (factsF (fun key => sv (gives FI FT bl L k key eS)) g (.map (some B1)))
  map : MapK wr B1 k (fun x t => if t.toList.isEmpty then none else gives FI FT bl L k x t)
  vals : ∀ j, j < k → B1 + 2 ≤ bl j ∧ wr.rowIs (bl j) 112 (L j * 14) (valF (X j))
  own : wr.ownsRow (B1 + 2) 3 1 g gn gx
  apart : ∀ j, j < k → g.ownBlock ≠ some (bl j)
  bel : Below B1 V1 wr
  big : B1 + 2 ≤ wr.heap.size
  few : gn ≤ k

/-- New blocks leave it. -/
theorem FactsIn.later {V1 wr w' : World} {B1 : Nat} {FI : Nat → Int} {FT : Nat → ByteArray} {L : Nat → Nat} {X : Nat → Nat → ByteArray} {k : Nat} {bl : Nat → Nat} {g : Value} {gn : Nat} {gx : List Value}
    (h : FactsIn V1 wr B1 FI FT L X k bl g gn gx) (hb : Below wr.heap.size wr w') : FactsIn V1 w' B1 FI FT L X k bl g gn gx where
  row := h.row.of_block (hb.block _ h.row.lt)
  map := h.map.of_block (hb.block _ h.map.lt)
  vals := fun j hj => ⟨(h.vals j hj).1, (h.vals j hj).2.of_block (hb.block _ (h.vals j hj).2.lt)⟩
  own := h.own.kept (row := none) ⟨hb.os, hb.tape, hb.output, hb.size, fun k hk _ => hb.block k hk⟩ (by
    cases e : g.ownBlock with
    | none => exact .inl rfl
    | some b => exact .inr (by simp))
  apart := h.apart
  bel := h.bel.trans (hb.mono (by have := h.bel.size; have := h.big; omega))
  big := Nat.le_trans h.big hb.size
  few := h.few

/-- A listing with a tag: the map's entry. -/
theorem FactsIn.tagged {V1 wr w' : World} {B1 : Nat} {FI : Nat → Int} {FT : Nat → ByteArray} {L : Nat → Nat} {X : Nat → Nat → ByteArray} {k : Nat} {bl : Nat → Nat} {g : Value} {gn : Nat} {gx : List Value} {hb : Nat}
    (h : FactsIn V1 wr B1 FI FT L X k bl g gn gx) (hne : (FT k).toList.isEmpty = false) (hnew : B1 + 2 ≤ hb) (hrow : wr.rowIs hb 112 (L k * 14) (valF (X k))) (hg : g.ownBlock ≠ some hb)
    (hm : MapK w' B1 (k + 1) (fun x t => if x = FI k ∧ t = FT k then some (hb, L k) else if t.toList.isEmpty then none else gives FI FT bl L k x t)) (hgr : wr.grownBy w' (some B1)) :
    FactsIn V1 w' B1 FI FT L X (k + 1) (fun j => if j = k then hb else bl j) g gn gx := by
  have heS : (eS.toList.isEmpty) = true := eS_empty
  have hb1 : ∀ b, b ≠ B1 → b < wr.heap.size → w'.heap[b]? = wr.heap[b]? := fun b hn hl => hgr.block b hl (fun e => hn (Option.some.inj e))
  refine ⟨?_, ?_, fun j hj => ?_, ?_, fun j hj => ?_, ?_, Nat.le_trans h.big hgr.size, by have := h.few; omega⟩
  · have := h.row.of_block (hb1 _ (by omega) h.row.lt)
    have e : ∀ key : Nat, gives FI FT (fun j => if j = k then hb else bl j) L (k + 1) key eS = gives FI FT bl L k key eS := fun key => by
      rw [gives_succ, if_neg]
      rintro ⟨_, e⟩
      rw [← e, heS] at hne
      cases hne
    exact this.congr (fun i hi => by simp only [factsF, e])
  · refine (show (fun x t => if x = FI k ∧ t = FT k then some (hb, L k) else if t.toList.isEmpty then none else gives FI FT bl L k x t) = (fun x t => if t.toList.isEmpty then none else gives FI FT (fun j => if j = k then hb else bl j) L (k + 1) x t) from ?_) ▸ hm
    funext x t
    rw [gives_succ]
    by_cases e : x = FI k ∧ t = FT k
    · obtain ⟨rfl, rfl⟩ := e
      simp [hne]
    · rw [if_neg e, if_neg e]
  · rcases (show j < k ∨ j = k from by omega) with e | rfl
    · rw [if_neg (by omega)]
      have := h.vals j e
      exact ⟨this.1, this.2.of_block (hb1 _ (by omega) this.2.lt)⟩
    · rw [if_pos rfl]
      exact ⟨hnew, hrow.of_block (hb1 _ (by omega) hrow.lt)⟩
  · exact h.own.kept hgr (by
      cases e : g.ownBlock with
      | none => exact .inl rfl
      | some b => exact .inr (by have := (h.own.lt b e).1; simp; omega))
  · rcases (show j < k ∨ j = k from by omega) with e | rfl
    · rw [if_neg (by omega)]; exact h.apart j e
    · rw [if_pos rfl]; exact hg
  · exact h.bel.grown hgr (by have := h.big; omega) (fun b e => by cases e; exact Nat.le_refl _)
end Go.Proofs.Qxb6614456a

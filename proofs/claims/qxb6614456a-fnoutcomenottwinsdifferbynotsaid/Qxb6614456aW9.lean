/- My own work on the program: one listing more. -/
import Derived.Test.Qxb6614456aW8
namespace Go.Proofs.Qxb6614456a
open Go.RowKit
set_option linter.unusedVariables false
set_option linter.unusedSimpArgs false
theorem empty_of (t : ByteArray) (h : t.toList.isEmpty = true) : t = eS := by
  have := Go.decide_eq_emptyBytes t
  rw [h] at this
  exact of_decide_eq_true this

theorem FactsIn.keyed {V1 wr : World} {B1 : Nat} {FI : Nat → Int} {FT : Nat → ByteArray} {L : Nat → Nat} {X : Nat → Nat → ByteArray} {k : Nat} {bl : Nat → Nat} {g : Value} {gn : Nat} {gx : List Value} {hb key : Nat}
    (h : FactsIn V1 wr B1 FI FT L X k bl g gn gx) (he : FT k = eS) (hkey : FI k = key) (hk49 : key < 49) (hnew : B1 + 2 ≤ hb) (hrow : wr.rowIs hb 112 (L k * 14) (valF (X k))) (hg : g.ownBlock ≠ some hb) :
    FactsIn V1 (wr.setCell ⟨B1 + 1, 1 + key, none⟩ (.slice (some ⟨hb, 0, none⟩) (L k) (L k))) B1 FI FT L X (k + 1) (fun j => if j = k then hb else bl j) g gn gx := by
  have hob : ∀ b, b ≠ B1 + 1 → (wr.setCell ⟨B1 + 1, 1 + key, none⟩ (.slice (some ⟨hb, 0, none⟩) (L k) (L k))).heap[b]? = wr.heap[b]? := fun b hn => Deep.blk_setCell_other _ _ _ _ hn
  have hsz := Deep.nblk_setCell wr ⟨B1 + 1, 1 + key, none⟩ (.slice (some ⟨hb, 0, none⟩) (L k) (L k))
  have heS := eS_empty
  have hgr : wr.grownBy (wr.setCell ⟨B1 + 1, 1 + key, none⟩ (.slice (some ⟨hb, 0, none⟩) (L k) (L k))) (some (B1 + 1)) :=
    ⟨rfl, rfl, rfl, by rw [hsz]; exact Nat.le_refl _, fun b _ hn => hob b (fun e => hn (by rw [e]))⟩
  refine ⟨?_, ?_, fun j hj => ?_, ?_, fun j hj => ?_, ?_, by rw [hsz]; exact h.big, by have := h.few; omega⟩
  · refine (h.row.set (1 + key) _).congr (fun i hi => ?_)
    unfold factsF
    by_cases e : i = 1 + key
    · subst e
      rw [if_pos rfl, if_neg (by omega), if_pos (by omega)]
      show _ = sv (gives FI FT (fun j => if j = k then hb else bl j) L (k + 1) ((1 + key - 1 : Nat) : Int) eS)
      rw [gives_succ, if_pos]
      · rfl
      · rw [hkey, he]
        exact ⟨by rw [Nat.add_sub_cancel_left], rfl⟩
    · rw [if_neg e]
      by_cases e0 : i = 0
      · rw [if_pos e0, if_pos e0]
      · rw [if_neg e0, if_neg e0]
        by_cases e1 : i < 50
        · rw [if_pos e1, if_pos e1]
          show sv (gives FI FT bl L k ((i - 1 : Nat) : Int) eS) = sv (gives FI FT (fun j => if j = k then hb else bl j) L (k + 1) ((i - 1 : Nat) : Int) eS)
          rw [gives_succ, if_neg]
          rintro ⟨e2, _⟩
          rw [hkey] at e2
          have := Int.natCast_inj.1 e2
          omega
        · rw [if_neg e1, if_neg e1]
  · have hm := h.map.of_block (hob B1 (by omega))
    obtain ⟨D, ⟨es, clock, h1, h2, h3, h4⟩, hD, hf⟩ := hm
    refine ⟨D, ⟨es, clock, h1, h2, by omega, h4⟩, hD, fun x t hx ht => ?_⟩
    rw [hf x t hx ht]
    show svD (if t.toList.isEmpty then none else gives FI FT bl L k x t) = svD (if t.toList.isEmpty then none else gives FI FT (fun j => if j = k then hb else bl j) L (k + 1) x t)
    congr 1
    by_cases e : t.toList.isEmpty = true
    · rw [if_pos e, if_pos e]
    · rw [if_neg e, if_neg e, gives_succ, if_neg]
      rintro ⟨_, e2⟩
      rw [e2, he] at e
      exact e heS
  · rcases (show j < k ∨ j = k from by omega) with e | rfl
    · rw [if_neg (by omega)]
      have := h.vals j e
      exact ⟨this.1, this.2.of_block (hob _ (by omega))⟩
    · rw [if_pos rfl]
      exact ⟨hnew, hrow.of_block (hob _ (by omega))⟩
  · exact h.own.kept hgr (by
      cases e : g.ownBlock with
      | none => exact .inl rfl
      | some b => exact .inr (by have := (h.own.lt b e).1; simp; omega))
  · rcases (show j < k ∨ j = k from by omega) with e | rfl
    · rw [if_neg (by omega)]; exact h.apart j e
    · rw [if_pos rfl]; exact hg
  · exact h.bel.grown hgr (by have := h.big; omega) (fun b e => by cases e; omega)

/-- The list of the keys given grows. -/
theorem FactsIn.given {V1 wr w1 : World} {B1 : Nat} {FI : Nat → Int} {FT : Nat → ByteArray} {L : Nat → Nat} {X : Nat → Nat → ByteArray} {k : Nat} {bl : Nat → Nat} {g g' : Value} {gn : Nat} {gx gx' : List Value}
    (h : FactsIn V1 wr B1 FI FT L X k bl g gn gx) (hgr : wr.grownBy w1 g.ownBlock) (hown : w1.ownsRow (B1 + 2) 3 1 g' (gn + 1) gx') (hfew : gn + 1 ≤ k)
    (hg' : ∀ b, g'.ownBlock = some b → some b = g.ownBlock ∨ wr.heap.size ≤ b) :
    FactsIn V1 (w1.setCell ⟨B1 + 1, 50, none⟩ g') B1 FI FT L X k bl g' (gn + 1) gx' := by
  have hob : ∀ b, b ≠ B1 + 1 → (w1.setCell ⟨B1 + 1, 50, none⟩ g').heap[b]? = w1.heap[b]? := fun b hn => Deep.blk_setCell_other _ _ _ _ hn
  have hsz := Deep.nblk_setCell w1 ⟨B1 + 1, 50, none⟩ g'
  have hgb : ∀ b, g.ownBlock = some b → B1 + 2 ≤ b := fun b e => (h.own.lt b e).1
  have hgr2 : w1.grownBy (w1.setCell ⟨B1 + 1, 50, none⟩ g') (some (B1 + 1)) := ⟨rfl, rfl, rfl, by rw [hsz]; exact Nat.le_refl _, fun b _ hn => hob b (fun e => hn (by rw [e]))⟩
  have hold : ∀ b, b < wr.heap.size → some b ≠ g.ownBlock → w1.heap[b]? = wr.heap[b]? := fun b hl hn => hgr.block b hl hn
  refine ⟨?_, ?_, fun j hj => ?_, ?_, fun j hj => ?_, ?_, by rw [hsz]; exact Nat.le_trans h.big hgr.size, hfew⟩
  · have hr := h.row.of_block (hold _ h.row.lt (fun e => by have := hgb _ e.symm; omega))
    refine (hr.set 50 _).congr (fun i hi => ?_)
    unfold factsF
    by_cases e : i = 50
    · subst e; simp
    · rw [if_neg e]
      simp [e]
  · exact (h.map.of_block (hold _ h.map.lt (fun e => by have := hgb _ e.symm; omega))).of_block (hob _ (by omega))
  · have hv := h.vals j hj
    exact ⟨hv.1, (hv.2.of_block (hold _ hv.2.lt (fun e => h.apart j hj e.symm))).of_block (hob _ (by omega))⟩
  · exact hown.kept hgr2 (by
      cases e : g'.ownBlock with
      | none => exact .inl rfl
      | some b => exact .inr (by have := (hown.lt b e).1; simp; omega))
  · intro e
    have hv := h.vals j hj
    rcases hg' _ e with e1 | e1
    · exact h.apart j hj e1.symm
    · have := hv.2.lt; omega
  · exact (h.bel.grown hgr (by have := h.big; omega) (fun b e => by have := hgb b e; omega)).grown hgr2 (by have := h.big; have := hgr.size; omega) (fun b e => by cases e; omega)
end Go.Proofs.Qxb6614456a

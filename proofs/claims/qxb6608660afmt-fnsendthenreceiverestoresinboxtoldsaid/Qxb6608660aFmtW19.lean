/- My own work on the program: the nodes as buildNodes lays them. -/
import Derived.Test.Qxb6608660aFmtW18
namespace Go.Proofs.Qxb6608660aFmt
open Go.RowKit
set_option linter.unusedSimpArgs false
set_option linter.unusedVariables false

/-- The last of the first k names that is t. -/
def lastN (S : Nat → ByteArray) : Nat → ByteArray → Option Nat
  | 0, _ => none
  | k + 1, t => if t = S k then some k else lastN S k t
theorem lastN_lt {S : Nat → ByteArray} : ∀ {k : Nat} {t : ByteArray} {j : Nat}, lastN S k t = some j → j < k := by
  intro k
  induction k with
  | zero => intro t j h; cases h
  | succ k ih =>
    intro t j h
    rw [lastN] at h
    by_cases e : t = S k
    · rw [if_pos e] at h; cases h; omega
    · rw [if_neg e] at h; have := ih h; omega
theorem lastN_map (S : Nat → ByteArray) (nb : Nat → Nat) (k B : Nat) : (fun x => if x = S k then some B else (lastN S k x).map nb) = (fun t => (lastN S (k + 1) t).map (upd nb k B)) := by
  funext t
  rw [lastN]
  by_cases e : t = S k
  · rw [if_pos e, if_pos e]; simp [upd_same]
  · rw [if_neg e, if_neg e]
    cases h : lastN S k t with
    | none => rfl
    | some j => simp [upd_other nb B (show j ≠ k from by have := lastN_lt h; omega)]

theorem own_later {w w' : World} {base : Nat} {e : TypeId} {s : Nat} {v : Value} {n : Nat} {xs : List Value} (h : w.ownsRow base e s v n xs) (hb : Below w.heap.size w w') : w'.ownsRow base e s v n xs :=
  h.kept (row := none) ⟨hb.os, hb.tape, hb.output, hb.size, fun k hk _ => hb.block k hk⟩ (by
    cases e : v.ownBlock with
    | none => exact .inl rfl
    | some b => exact .inr (by simp))
theorem own_only {w w' : World} {base : Nat} {e : TypeId} {s : Nat} {v : Value} {n : Nat} {xs : List Value} {p : Nat → Prop} (h : w.ownsRow base e s v n xs) (ho : Only p w w') (hp : ∀ g, v.ownBlock = some g → ¬ p g) : w'.ownsRow base e s v n xs := by
  refine ⟨h.1, ?_⟩
  rcases h.2 with h2 | ⟨g, cap, cur, e1, e2, e3, e4⟩
  · exact .inl h2
  · exact .inr ⟨g, cap, cur, e1, e2, (ho.block g (h.lt g (by rw [e1]; rfl)).2 (hp g (by rw [e1]; rfl))).trans e3, e4⟩

/-- Behind k nodes. -/
structure NodesIn (w wr : World) (tg : Nat → Nat × Nat) (Bn Bm N : Nat) (S : Nat → ByteArray) (k : Nat) (nb : Nat → Nat) (val : Nat → Value) (cnt : Nat → Nat) (cs : Nat → List Value) (f : Nat → Value) : Prop where
  row : wr.rowIs Bn 44 N f
  ptrs : ∀ j, j < k → f j = .pointer (some ⟨nb j, 0, none⟩)
  map : MapIs wr ptrR Bm k (fun t => (lastN S k t).map nb)
  node : ∀ j, j < k → wr.rowIs (nb j) 103 8 (nodeF (S j) j (val (1 + 2 * j)) (val (2 + 2 * j)))
  rows : ∀ r, 0 < r → r < 1 + 2 * k → wr.ownsRow w.heap.size (rty r) (rsz r) (val r) (cnt r) (cs r)
  gb : tg Bn = (4, 1)
  gm : tg Bm = (2, 0)
  gn : ∀ j, j < k → tg (nb j) = (5, j)
  gr : ∀ r, 0 < r → r < 1 + 2 * k → ∀ g, (val r).ownBlock = some g → tg g = (6, r)
  low : ∀ b, b < w.heap.size → tg b = (7, 0)
  bel : Below w.heap.size w wr

theorem rty1 (k : Nat) : rty (1 + 2 * k) = 57 := by unfold rty; rw [if_neg (by omega)]
theorem rsz1 (k : Nat) : rsz (1 + 2 * k) = 3 := by unfold rsz; rw [if_neg (by omega)]
theorem rty2 (k : Nat) : rty (2 + 2 * k) = 52 := by unfold rty; rw [if_pos (by omega)]
theorem rsz2 (k : Nat) : rsz (2 + 2 * k) = 2 := by unfold rsz; rw [if_pos (by omega)]

theorem NodesIn.step {w wr w5 : World} {tg : Nat → Nat × Nat} {Bn Bm N : Nat} {S : Nat → ByteArray} {k : Nat} {nb : Nat → Nat} {val : Nat → Value} {cnt : Nat → Nat} {cs : Nat → List Value} {f : Nat → Value}
    (h : NodesIn w wr tg Bn Bm N S k nb val cnt cs f) {B n1 n2 : Nat} {iv sv : Value} {x1 x2 : List Value} (ho : Only (fun b => b = Bn ∨ b = Bm) wr w5) (hrow : w5.rowIs Bn 44 N (fun i => if i = k then .pointer (some ⟨B, 0, none⟩) else f i))
    (hmap : MapIs w5 ptrR Bm (k + 1) (fun x => if x = S k then some B else (lastN S k x).map nb)) (hB : wr.heap.size ≤ B) (hnode : w5.rowIs B 103 8 (nodeF (S k) k iv sv))
    (h1 : w5.ownsRow w.heap.size 57 3 iv n1 x1) (h2 : w5.ownsRow w.heap.size 52 2 sv n2 x2) (g1 : ∀ g, iv.ownBlock = some g → wr.heap.size ≤ g ∧ g ≠ B) (g2 : ∀ g, sv.ownBlock = some g → wr.heap.size ≤ g ∧ g ≠ B ∧ iv.ownBlock ≠ some g) :
    ∃ tg' f', (∀ b, b < wr.heap.size → tg' b = tg b) ∧ (∀ b, wr.heap.size ≤ b → b ≠ B → iv.ownBlock ≠ some b → sv.ownBlock ≠ some b → tg' b = (4, 0)) ∧
      NodesIn w w5 tg' Bn Bm N S (k + 1) (upd nb k B) (upd (upd val (1 + 2 * k) iv) (2 + 2 * k) sv) (upd (upd cnt (1 + 2 * k) n1) (2 + 2 * k) n2) (upd (upd cs (1 + 2 * k) x1) (2 + 2 * k) x2) f' := by
  obtain ⟨tg', htg⟩ : ∃ tg' : Nat → Nat × Nat, tg' = fun b => if b < wr.heap.size then tg b else if b = B then (5, k) else if iv.ownBlock = some b then (6, 1 + 2 * k) else if sv.ownBlock = some b then (6, 2 + 2 * k) else (4, 0) := ⟨_, rfl⟩
  have t1 : ∀ b, b < wr.heap.size → tg' b = tg b := fun b hb => by rw [htg]; exact if_pos hb
  have t2 : tg' B = (5, k) := by rw [htg]; simp only [if_neg (show ¬ B < wr.heap.size from by omega), if_true]
  have t3 : ∀ g, iv.ownBlock = some g → tg' g = (6, 1 + 2 * k) := fun g e => by
    rw [htg]
    have := g1 g e
    simp only [if_neg (show ¬ g < wr.heap.size from by omega), if_neg this.2, e, if_true]
  have t4 : ∀ g, sv.ownBlock = some g → tg' g = (6, 2 + 2 * k) := fun g e => by
    rw [htg]
    have := g2 g e
    simp only [if_neg (show ¬ g < wr.heap.size from by omega), if_neg this.2.1, if_neg this.2.2, e, if_true]
  have t5 : ∀ b, wr.heap.size ≤ b → b ≠ B → iv.ownBlock ≠ some b → sv.ownBlock ≠ some b → tg' b = (4, 0) := fun b hb e1 e2 e3 => by
    rw [htg]
    simp only [if_neg (show ¬ b < wr.heap.size from by omega), if_neg e1, if_neg e2, if_neg e3]
  have old : ∀ b, (tg b).1 = 5 ∨ (tg b).1 = 6 → ¬ (b = Bn ∨ b = Bm) := fun b e e' => by
    rcases e' with rfl | rfl
    · rw [h.gb] at e; rcases e with e | e <;> cases e
    · rw [h.gm] at e; rcases e with e | e <;> cases e
  refine ⟨tg', _, t1, t5, ⟨hrow, fun j hj => ?_, ?_, fun j hj => ?_, fun r h0 hr => ?_, ?_, ?_, fun j hj => ?_, fun r h0 hr g e => ?_, fun b hb => ?_, ?_⟩⟩
  · by_cases e : j = k
    · subst e; rw [if_pos rfl, upd_same]
    · rw [if_neg e, upd_other _ _ e]; exact h.ptrs j (by omega)
  · rw [← lastN_map]; exact hmap
  · by_cases e : j = k
    · subst e
      rw [upd_same, upd_same, upd_other _ _ (by omega), upd_same]
      exact hnode
    · rw [upd_other _ _ e, upd_other _ _ (by omega), upd_other _ _ (by omega), upd_other _ _ (by omega), upd_other _ _ (by omega)]
      exact ho.row (h.node j (by omega)) (old _ (by rw [h.gn j (by omega)]; exact .inl rfl))
  · by_cases e2 : r = 2 + 2 * k
    · subst e2
      rw [upd_same, upd_same, upd_same, rty2, rsz2]; exact h2
    · by_cases e1 : r = 1 + 2 * k
      · subst e1
        rw [upd_other _ _ e2, upd_same, upd_other _ _ e2, upd_same, upd_other _ _ e2, upd_same, rty1, rsz1]; exact h1
      · rw [upd_other _ _ e2, upd_other _ _ e1, upd_other _ _ e2, upd_other _ _ e1, upd_other _ _ e2, upd_other _ _ e1]
        exact own_only (h.rows r h0 (by omega)) ho (fun g e => old g (by rw [h.gr r h0 (by omega) g e]; exact .inr rfl))
  · rw [t1 _ h.row.lt, h.gb]
  · rw [t1 _ h.map.lt, h.gm]
  · by_cases e : j = k
    · subst e; rw [upd_same, t2]
    · rw [upd_other _ _ e, t1 _ (h.node j (by omega)).lt, h.gn j (by omega)]
  · by_cases e2 : r = 2 + 2 * k
    · subst e2
      rw [upd_same] at e
      exact t4 g e
    · by_cases e1 : r = 1 + 2 * k
      · subst e1
        rw [upd_other _ _ e2, upd_same] at e
        exact t3 g e
      · rw [upd_other _ _ e2, upd_other _ _ e1] at e
        rw [t1 _ ((h.rows r h0 (by omega)).lt g e).2, h.gr r h0 (by omega) g e]
  · rw [t1 b (Nat.lt_of_lt_of_le hb h.bel.size), h.low b hb]
  · exact h.bel.trans (ho.below h.bel.size (fun b e => by
      rcases Nat.lt_or_ge b w.heap.size with hb | hb
      · have := h.low b hb
        rcases e with rfl | rfl
        · rw [h.gb] at this; cases this
        · rw [h.gm] at this; cases this
      · exact hb))

/-- What the first k nodes hold: the node r the messages and stamps that came in, the others nothing. -/
def Prior (w : World) (tg : Nat → Nat × Nat) (r : Int) (k : Nat) (cnt : Nat → Nat) (cs : Nat → List Value) (np : Nat) (F T : Nat → ByteArray) (Q : Nat → Int) (ns : Nat) (L : Nat → Nat) (Z : Nat → Nat → Int) (Nn : Nat → Int) : Prop :=
  ∀ j : Nat, j < k → ((j : Int) = r → cnt (1 + 2 * j) = np ∧ cs (1 + 2 * j) = mList np F T Q ∧ cnt (2 + 2 * j) = ns ∧ ∃ A C, cs (2 + 2 * j) = sList ns A L C Nn ∧ ∀ i, i < ns → CInts w tg (A i) (L i) (Z i)) ∧
    ((j : Int) ≠ r → cnt (1 + 2 * j) = 0 ∧ cs (1 + 2 * j) = [] ∧ cnt (2 + 2 * j) = 0 ∧ cs (2 + 2 * j) = [])
theorem Prior.link {w w' : World} {tg tg' : Nat → Nat × Nat} {r : Int} {k : Nat} {cnt : Nat → Nat} {cs : Nat → List Value} {np : Nat} {F T : Nat → ByteArray} {Q : Nat → Int} {ns : Nat} {L : Nat → Nat} {Z : Nat → Nat → Int} {Nn : Nat → Int}
    (h : Prior w tg r k cnt cs np F T Q ns L Z Nn) (hl : ∀ a n Z, CInts w tg a n Z → CInts w' tg' a n Z) : Prior w' tg' r k cnt cs np F T Q ns L Z Nn := fun j hj =>
  ⟨fun e => by
    obtain ⟨h1, h2, h3, A, C, h4, h5⟩ := (h j hj).1 e
    exact ⟨h1, h2, h3, A, C, h4, fun i hi => hl _ _ _ (h5 i hi)⟩, (h j hj).2⟩
theorem Prior.step {w w' : World} {tg tg' : Nat → Nat × Nat} {r : Int} {k : Nat} {cnt : Nat → Nat} {cs : Nat → List Value} {np : Nat} {F T : Nat → ByteArray} {Q : Nat → Int} {ns : Nat} {L : Nat → Nat} {Z : Nat → Nat → Int} {Nn : Nat → Int}
    (h : Prior w tg r k cnt cs np F T Q ns L Z Nn) (hl : ∀ a n Z, CInts w tg a n Z → CInts w' tg' a n Z) {n1 n2 : Nat} {x1 x2 : List Value}
    (hy : (k : Int) = r → n1 = np ∧ x1 = mList np F T Q ∧ n2 = ns ∧ ∃ A C, x2 = sList ns A L C Nn ∧ ∀ i, i < ns → CInts w' tg' (A i) (L i) (Z i)) (hn : (k : Int) ≠ r → n1 = 0 ∧ x1 = [] ∧ n2 = 0 ∧ x2 = []) :
    Prior w' tg' r (k + 1) (upd (upd cnt (1 + 2 * k) n1) (2 + 2 * k) n2) (upd (upd cs (1 + 2 * k) x1) (2 + 2 * k) x2) np F T Q ns L Z Nn := fun j hj => by
  by_cases e : j = k
  · subst e
    rw [upd_other _ _ (show 1 + 2 * j ≠ 2 + 2 * j from by omega), upd_same, upd_other _ _ (show 1 + 2 * j ≠ 2 + 2 * j from by omega), upd_same, upd_same, upd_same]
    exact ⟨hy, hn⟩
  · rw [upd_other _ _ (show 1 + 2 * j ≠ 2 + 2 * k from by omega), upd_other _ _ (show 1 + 2 * j ≠ 1 + 2 * k from by omega), upd_other _ _ (show 1 + 2 * j ≠ 2 + 2 * k from by omega), upd_other _ _ (show 1 + 2 * j ≠ 1 + 2 * k from by omega),
      upd_other _ _ (show 2 + 2 * j ≠ 2 + 2 * k from by omega), upd_other _ _ (show 2 + 2 * j ≠ 1 + 2 * k from by omega), upd_other _ _ (show 2 + 2 * j ≠ 2 + 2 * k from by omega), upd_other _ _ (show 2 + 2 * j ≠ 1 + 2 * k from by omega)]
    exact h.link hl j (by omega)
end Go.Proofs.Qxb6608660aFmt

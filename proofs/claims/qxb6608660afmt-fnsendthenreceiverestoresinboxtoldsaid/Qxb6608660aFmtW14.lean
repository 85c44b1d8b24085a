/- My own work on the program: the system's memory as a whole; rows that grow. -/
import Derived.Test.Qxb6608660aFmtW13
import Derived.Deep.Cut
import Derived.Deep.CutRange
namespace Go.Proofs.Qxb6608660aFmt
open Go.RowKit
set_option linter.unusedSimpArgs false
set_option linter.unusedVariables false

def sysF (nodes byName trace sent : Value) (c : Nat) : Value := (sysCells nodes byName trace sent).getD c undef
theorem sysF_set9 (nodes byName trace sent v : Value) (c : Nat) (hc : c < 26) : (if c = 9 then v else sysF nodes byName trace sent c) = sysF nodes byName trace v c := by
  unfold sysF sysCells
  match c, hc with
  | 0, _ => rfl
  | 1, _ => rfl
  | 2, _ => rfl
  | 3, _ => rfl
  | 4, _ => rfl
  | 5, _ => rfl
  | 6, _ => rfl
  | 7, _ => rfl
  | 8, _ => rfl
  | 9, _ => rfl
  | 10, _ => rfl
  | 11, _ => rfl
  | 12, _ => rfl
  | 13, _ => rfl
  | 14, _ => rfl
  | 15, _ => rfl
  | 16, _ => rfl
  | 17, _ => rfl
  | 18, _ => rfl
  | 19, _ => rfl
  | 20, _ => rfl
  | 21, _ => rfl
  | 22, _ => rfl
  | 23, _ => rfl
  | 24, _ => rfl
  | 25, _ => rfl
  | n + 26, h => exact absurd h (by omega)

def msgCells (a b : ByteArray) (q : Int) : List Value := [.string a, .string b, .iface 3 (.int .i64 q)]
def stCells (a : Option Addr) (l c : Nat) (n : Int) : List Value := [.slice a l c, .int .i64 n]
theorem msgCells_one (a b : ByteArray) (q : Int) : ∀ u ∈ msgCells a b q, u.oneCell' = true := by
  intro u hu
  simp [msgCells] at hu
  rcases hu with rfl | rfl | rfl <;> rfl
theorem stCells_one (a : Option Addr) (l c : Nat) (n : Int) : ∀ u ∈ stCells a l c n, u.oneCell' = true := by
  intro u hu
  simp [stCells] at hu
  rcases hu with rfl | rfl <;> rfl

/-! The rows that grow: 0 the sent list, 1 + 2 j node j's inbox, 2 + 2 j node j's stamps. -/
def rty (r : Nat) : TypeId := if r ≠ 0 ∧ r % 2 = 0 then 52 else 57
def rsz (r : Nat) : Nat := if r ≠ 0 ∧ r % 2 = 0 then 2 else 3
def vb (Bsys : Nat) (nb : Nat → Nat) (r : Nat) : Nat := if r = 0 then Bsys else nb ((r - 1) / 2)
def vk (r : Nat) : Nat := if r = 0 then 9 else 3 + (r - 1) % 2
def upd {α : Type} (f : Nat → α) (r : Nat) (v : α) (i : Nat) : α := if i = r then v else f i
theorem upd_same {α : Type} (f : Nat → α) (r : Nat) (v : α) : upd f r v r = v := if_pos rfl
theorem upd_other {α : Type} (f : Nat → α) {r i : Nat} (v : α) (h : i ≠ r) : upd f r v i = f i := if_neg h

/-- The system: context, nodes, the map of names, the rows that grow; tg tells the blocks apart (0 context, 1 system, 2 map, 3 tracer, 4 what stands still, 5 nodes, 6 rows that grow, 7 what came in). -/
structure SysIn (B : Nat) (w0 w : World) (tg : Nat → Nat × Nat) (N Bx Bsys Bmap fr : Nat) (nodes : Value) (nb : Nat → Nat) (nm : Nat → ByteArray) (idx : ByteArray → Option Nat) (tp : Option Addr) (val : Nat → Value) (cnt : Nat → Nat) (cs : Nat → List Value) : Prop where
  hfr : fr < N
  ctx : w.rowIs Bx 81 2 (fun i => if i = 0 then .pointer (some ⟨Bsys, 0, none⟩) else .pointer (some ⟨nb fr, 0, none⟩))
  sys : w.rowIs Bsys 93 26 (sysF nodes (.map (some Bmap)) (.pointer tp) (val 0))
  node : ∀ j, j < N → w.rowIs (nb j) 103 8 (nodeF (nm j) j (val (1 + 2 * j)) (val (2 + 2 * j)))
  map : ∃ k, MapIs w ptrR Bmap k (fun t => (idx t).map nb)
  hidx : ∀ t j, idx t = some j → j < N
  rows : ∀ r, r < 1 + 2 * N → w.ownsRow B (rty r) (rsz r) (val r) (cnt r) (cs r)
  gx : tg Bx = (0, 0)
  gs : tg Bsys = (1, 0)
  gm : tg Bmap = (2, 0)
  gn : ∀ j, j < N → tg (nb j) = (5, j)
  gr : ∀ r, r < 1 + 2 * N → ∀ g, (val r).ownBlock = some g → tg g = (6, r)
  low : ∀ b, b < B → (tg b).1 = 7
  big : B ≤ w.heap.size
  bel : Below B w0 w

/-- A change of the tracer, and of new blocks, alone. -/
theorem SysIn.keep {B : Nat} {w0 w w' : World} {tg : Nat → Nat × Nat} {N Bx Bsys Bmap fr : Nat} {nodes : Value} {nb : Nat → Nat} {nm : Nat → ByteArray} {idx : ByteArray → Option Nat} {tp : Option Addr} {val : Nat → Value} {cnt : Nat → Nat} {cs : Nat → List Value}
    (h : SysIn B w0 w tg N Bx Bsys Bmap fr nodes nb nm idx tp val cnt cs) {p : Nat → Prop} (ho : Only p w w') (hp : ∀ b, p b → (tg b).1 = 3) : SysIn B w0 w' tg N Bx Bsys Bmap fr nodes nb nm idx tp val cnt cs where
  hfr := h.hfr
  ctx := ho.row h.ctx (fun e => by have := hp _ e; rw [h.gx] at this; cases this)
  sys := ho.row h.sys (fun e => by have := hp _ e; rw [h.gs] at this; cases this)
  node := fun j hj => ho.row (h.node j hj) (fun e => by have := hp _ e; rw [h.gn j hj] at this; cases this)
  map := by
    obtain ⟨k, hk⟩ := h.map
    exact ⟨k, hk.of_block (ho.block _ hk.lt (fun e => by have := hp _ e; rw [h.gm] at this; cases this))⟩
  hidx := h.hidx
  rows := fun r hr => by
    have h1 := h.rows r hr
    refine ⟨h1.1, ?_⟩
    rcases h1.2 with h2 | ⟨g, cap, cur, e1, e2, e3, e4⟩
    · exact .inl h2
    · refine .inr ⟨g, cap, cur, e1, e2, (ho.block g ?_ ?_).trans e3, e4⟩
      · exact (h1.lt g (by rw [e1]; rfl)).2
      · intro e
        have := hp _ e
        rw [h.gr r hr g (by rw [e1]; rfl)] at this
        cases this
  gx := h.gx
  gs := h.gs
  gm := h.gm
  gn := h.gn
  gr := h.gr
  low := h.low
  big := Nat.le_trans h.big ho.size
  bel := h.bel.trans (ho.below h.big (fun b e => by
    rcases Nat.lt_or_ge b B with hb | hb
    · have := h.low b hb; have := hp b e; omega
    · exact hb))

theorem SysIn.later {B : Nat} {w0 w w' : World} {tg : Nat → Nat × Nat} {N Bx Bsys Bmap fr : Nat} {nodes : Value} {nb : Nat → Nat} {nm : Nat → ByteArray} {idx : ByteArray → Option Nat} {tp : Option Addr} {val : Nat → Value} {cnt : Nat → Nat} {cs : Nat → List Value}
    (h : SysIn B w0 w tg N Bx Bsys Bmap fr nodes nb nm idx tp val cnt cs) (hb : Below w.heap.size w w') : SysIn B w0 w' tg N Bx Bsys Bmap fr nodes nb nm idx tp val cnt cs :=
  h.keep (p := fun _ => False) (Only.ofBelow hb) (fun _ e => e.elim)

/-- The block of the row's variable. -/
theorem SysIn.vtag {B : Nat} {w0 w : World} {tg : Nat → Nat × Nat} {N Bx Bsys Bmap fr : Nat} {nodes : Value} {nb : Nat → Nat} {nm : Nat → ByteArray} {idx : ByteArray → Option Nat} {tp : Option Addr} {val : Nat → Value} {cnt : Nat → Nat} {cs : Nat → List Value}
    (h : SysIn B w0 w tg N Bx Bsys Bmap fr nodes nb nm idx tp val cnt cs) {r : Nat} (hr : r < 1 + 2 * N) : (tg (vb Bsys nb r)).1 = 1 ∨ (tg (vb Bsys nb r)).1 = 5 := by
  unfold vb
  by_cases e : r = 0
  · rw [if_pos e, h.gs]; exact .inl rfl
  · rw [if_neg e, h.gn _ (by omega)]; exact .inr rfl

/-- What a change of the rows leaves. -/
abbrev Moved (tg : Nat → Nat × Nat) (b : Nat) : Prop := (tg b).1 = 1 ∨ (tg b).1 = 5 ∨ (tg b).1 = 6

theorem SysIn.grow {B : Nat} {w0 w X w1 : World} {tg : Nat → Nat × Nat} {N Bx Bsys Bmap fr : Nat} {nodes : Value} {nb : Nat → Nat} {nm : Nat → ByteArray} {idx : ByteArray → Option Nat} {tp : Option Addr} {val : Nat → Value} {cnt : Nat → Nat} {cs : Nat → List Value}
    (h : SysIn B w0 w tg N Bx Bsys Bmap fr nodes nb nm idx tp val cnt cs) {r : Nat} (hr : r < 1 + 2 * N) (hX : Below w.heap.size w X) (hgrow : X.grownBy w1 (val r).ownBlock) {g n' cap : Nat} {xs' : List Value}
    (hown : w1.ownsRow B (rty r) (rsz r) (.slice (some ⟨g, 0, none⟩) n' cap) n' xs') (hg : (val r).ownBlock = some g ∨ w.heap.size ≤ g) :
    ∃ tg', (∀ b, b < w.heap.size → tg' b = tg b) ∧ Only (Moved tg) w (w1.setCell ⟨vb Bsys nb r, vk r, none⟩ (.slice (some ⟨g, 0, none⟩) n' cap)) ∧
      SysIn B w0 (w1.setCell ⟨vb Bsys nb r, vk r, none⟩ (.slice (some ⟨g, 0, none⟩) n' cap)) tg' N Bx Bsys Bmap fr nodes nb nm idx tp (upd val r (.slice (some ⟨g, 0, none⟩) n' cap)) (upd cnt r n') (upd cs r xs') := by
  have hlt : ∀ i, i < 1 + 2 * N → ∀ k, (val i).ownBlock = some k → k < w.heap.size := fun i hi k e => ((h.rows i hi).lt k e).2
  have htg : ∀ b, b < w.heap.size → (if b = g then (6, r) else tg b) = tg b := by
    intro b hb
    by_cases e : b = g
    · subst e
      rw [if_pos rfl]
      rcases hg with hg | hg
      · exact (h.gr r hr _ hg).symm
      · omega
    · exact if_neg e
  have ho1 : Only (fun b => tg b = (6, r)) w w1 := by
    refine ⟨hgrow.os.trans hX.os, hgrow.tape.trans hX.tape, hgrow.output.trans hX.output, Nat.le_trans hX.size hgrow.size, fun b hb hp => ?_⟩
    rw [hgrow.block b (Nat.lt_of_lt_of_le hb hX.size) (fun e => hp (h.gr r hr b e.symm)), hX.block b hb]
  have hob : ∀ b, b ≠ vb Bsys nb r → (w1.setCell ⟨vb Bsys nb r, vk r, none⟩ (.slice (some ⟨g, 0, none⟩) n' cap)).heap[b]? = w1.heap[b]? := fun b hn => Deep.blk_setCell_other _ _ _ _ hn
  have hvt := h.vtag hr
  have hbl : ∀ b, b < w.heap.size → b ≠ vb Bsys nb r → tg b ≠ (6, r) → (w1.setCell ⟨vb Bsys nb r, vk r, none⟩ (.slice (some ⟨g, 0, none⟩) n' cap)).heap[b]? = w.heap[b]? := fun b hb hn h6 => (hob b hn).trans (ho1.block b hb h6)
  have hmv : Only (Moved tg) w (w1.setCell ⟨vb Bsys nb r, vk r, none⟩ (.slice (some ⟨g, 0, none⟩) n' cap)) :=
    (ho1.mono (fun b e => by show _ ∨ _ ∨ _; rw [e]; exact .inr (.inr rfl))).setCell (x := ⟨vb Bsys nb r, vk r, none⟩) (by rcases hvt with e | e; exact .inl e; exact .inr (.inl e)) _
  have hgB : B ≤ g := (hown.lt g rfl).1
  refine ⟨fun b => if b = g then (6, r) else tg b, htg, hmv, ?_⟩
  have hvv : ∀ {j : Nat}, j < N → vb Bsys nb r = nb j → r = 1 + 2 * j ∨ r = 2 + 2 * j := by
    intro j hj e
    unfold vb at e
    by_cases e0 : r = 0
    · rw [if_pos e0] at e
      have := h.gn j hj
      rw [← e, h.gs] at this
      cases this
    · rw [if_neg e0] at e
      have h1 := h.gn j hj
      rw [← e, h.gn _ (by omega)] at h1
      have : (r - 1) / 2 = j := by simpa using h1
      omega
  constructor
  · exact h.hfr
  · refine h.ctx.of_block (hbl _ h.ctx.lt (fun e => ?_) (fun e => ?_))
    · rw [← e, h.gx] at hvt; rcases hvt with e | e <;> cases e
    · rw [h.gx] at e; cases e
  · by_cases e0 : r = 0
    · subst e0
      have := (h.sys.of_block (ho1.block _ h.sys.lt (fun e => by rw [h.gs] at e; cases e))).set 9 (.slice (some ⟨g, 0, none⟩) n' cap)
      exact this.congr (fun c hc => sysF_set9 _ _ _ _ _ c hc)
    · rw [upd_other _ _ (fun e => e0 e.symm)]
      refine h.sys.of_block (hbl _ h.sys.lt (fun e => ?_) (fun e => ?_))
      · unfold vb at e
        rw [if_neg e0] at e
        have := h.gs
        rw [e, h.gn _ (by omega)] at this
        cases this
      · rw [h.gs] at e; cases e
  · intro j hj
    have hn := h.node j hj
    have hn1 := hn.of_block (ho1.block _ hn.lt (fun e => by rw [h.gn j hj] at e; cases e))
    by_cases e1 : r = 1 + 2 * j
    · subst e1
      rw [upd_same, upd_other _ _ (by omega)]
      have hv : vb Bsys nb (1 + 2 * j) = nb j := by unfold vb; rw [if_neg (by omega)]; congr 1; omega
      have hk : vk (1 + 2 * j) = 3 := by unfold vk; rw [if_neg (by omega)]; omega
      rw [hv, hk]
      exact (hn1.set 3 _).congr (fun c hc => nodeF_set3 _ _ _ _ _ c hc)
    · by_cases e2 : r = 2 + 2 * j
      · subst e2
        rw [upd_same, upd_other _ _ (by omega)]
        have hv : vb Bsys nb (2 + 2 * j) = nb j := by unfold vb; rw [if_neg (by omega)]; congr 1; omega
        have hk : vk (2 + 2 * j) = 4 := by unfold vk; rw [if_neg (by omega)]; omega
        rw [hv, hk]
        exact (hn1.set 4 _).congr (fun c hc => nodeF_set4 _ _ _ _ _ c hc)
      · rw [upd_other _ _ (fun e => e1 e.symm), upd_other _ _ (fun e => e2 e.symm)]
        refine hn1.of_block (hob _ (fun e => ?_))
        rcases hvv hj e.symm with e | e
        · exact e1 e
        · exact e2 e
  · obtain ⟨k, hk⟩ := h.map
    refine ⟨k, hk.of_block (hbl _ hk.lt (fun e => ?_) (fun e => ?_))⟩
    · rw [← e, h.gm] at hvt; rcases hvt with e | e <;> cases e
    · rw [h.gm] at e; cases e
  · exact h.hidx
  · intro i hi
    by_cases e : i = r
    · subst e
      rw [upd_same, upd_same, upd_same]
      refine ⟨hown.1, ?_⟩
      rcases hown.2 with h2 | ⟨g', cap', cur, e1, e2, e3, e4⟩
      · exact .inl h2
      · refine .inr ⟨g', cap', cur, e1, e2, (hob g' (fun e => ?_)).trans e3, e4⟩
        have hgg : g = g' := by simp at e1; exact e1.1
        subst hgg
        rw [← e] at hvt
        rcases hg with hg | hg
        · rw [h.gr i hr _ hg] at hvt; rcases hvt with e | e <;> cases e
        · have hl : vb Bsys nb i < w.heap.size := by
            unfold vb
            by_cases e0 : i = 0
            · rw [if_pos e0]; exact h.sys.lt
            · rw [if_neg e0]; exact (h.node _ (by omega)).lt
          omega
    · rw [upd_other _ _ e, upd_other _ _ e, upd_other _ _ e]
      have h1 := h.rows i hi
      refine ⟨h1.1, ?_⟩
      rcases h1.2 with h2 | ⟨g', cap', cur, e1, e2, e3, e4⟩
      · exact .inl h2
      · have h6 := h.gr i hi g' (by rw [e1]; rfl)
        refine .inr ⟨g', cap', cur, e1, e2, (hbl g' (hlt i hi g' (by rw [e1]; rfl)) (fun e => ?_) (fun e' => ?_)).trans e3, e4⟩
        · rw [← e, h6] at hvt; rcases hvt with e | e <;> cases e
        · rw [h6] at e'; exact e (by simpa using e')
  · show (if Bx = g then (6, r) else tg Bx) = _
    rw [htg _ h.ctx.lt, h.gx]
  · show (if Bsys = g then (6, r) else tg Bsys) = _
    rw [htg _ h.sys.lt, h.gs]
  · obtain ⟨k, hk⟩ := h.map
    show (if Bmap = g then (6, r) else tg Bmap) = _
    rw [htg _ hk.lt, h.gm]
  · intro j hj
    show (if nb j = g then (6, r) else tg (nb j)) = _
    rw [htg _ (h.node j hj).lt, h.gn j hj]
  · intro i hi k hk
    show (if k = g then (6, r) else tg k) = _
    by_cases e : i = r
    · subst e
      rw [upd_same] at hk
      have : g = k := by simpa [Value.ownBlock] using hk
      rw [if_pos this.symm]
    · rw [upd_other _ _ e] at hk
      rw [htg _ (hlt i hi k hk), h.gr i hi k hk]
  · intro b hb
    show (if b = g then (6, r) else tg b).1 = _
    rw [if_neg (by omega)]
    exact h.low b hb
  · exact Nat.le_trans h.big hmv.size
  · exact h.bel.trans (hmv.below h.big (fun b e => by
      rcases Nat.lt_or_ge b B with hb | hb
      · have := h.low b hb; rcases e with e | e | e <;> omega
      · exact hb))
end Go.Proofs.Qxb6608660aFmt

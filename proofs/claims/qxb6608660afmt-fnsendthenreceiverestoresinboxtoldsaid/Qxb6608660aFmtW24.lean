/- My own work on the program: what stands behind the script of sends. -/
import Derived.Test.Qxb6608660aFmtW23
namespace Go.Proofs.Qxb6608660aFmt
open Go.RowKit
set_option linter.unusedSimpArgs false
set_option linter.unusedVariables false

theorem Link3.later {tg : Nat → Nat × Nat} {w w' : World} (hb : Below w.heap.size w w') : Link3 tg w tg w' := (Link.later hb (fun _ _ => rfl)).three
theorem Sent.later {B : Nat} {w0 w w' : World} {tg : Nat → Nat × Nat} {N Bx Bsys Bmap fr : Nat} {nodes : Value} {nb : Nat → Nat} {S : Nat → ByteArray} {tr : Bool} {Bt Bc K cK wl : Nat} {WZ : Nat → Int} {dst : Nat → Nat} {T : Nat → ByteArray} {Q : Nat → Int} {ms : Int} {k : Nat} {val : Nat → Value} {cnt : Nat → Nat} {cs : Nat → List Value}
    (h : Sent B w0 w tg N Bx Bsys Bmap fr nodes nb S tr Bt Bc K cK wl WZ dst T Q ms k val cnt cs) (hb : Below w.heap.size w w') : Sent B w0 w' tg N Bx Bsys Bmap fr nodes nb S tr Bt Bc K cK wl WZ dst T Q ms k val cnt cs where
  sys := h.sys.later hb
  trc := fun e => by
    obtain ⟨sa, sl, sc, st, ht⟩ := h.trc e
    exact ⟨sa, sl, sc, st, ht.link (Link.later hb (fun _ _ => rfl))⟩
  c0 := h.c0
  c1 := h.c1
  c2 := h.c2
  l0 := h.l0
  l1 := h.l1
  l2 := fun e i hi => (h.l2 e i hi).link (Link3.later hb)

/-- Nothing sent yet. -/
theorem sent_start {B : Nat} {w0 w : World} {tg : Nat → Nat × Nat} {N Bx Bsys Bmap fr : Nat} {nodes : Value} {nb : Nat → Nat} {S : Nat → ByteArray} {tr : Bool} {Bt Bc K cK wl : Nat} {WZ : Nat → Int} {dst : Nat → Nat} {T : Nat → ByteArray} {Q : Nat → Int} {ms : Int} {val : Nat → Value} {cnt : Nat → Nat} {cs : Nat → List Value} {sv : Value}
    (hs : SysIn B w0 w tg N Bx Bsys Bmap fr nodes nb S (lastN S N) (if tr then some ⟨Bt, 0, none⟩ else none) (upd val 0 sv) (upd cnt 0 0) (upd cs 0 [])) (hc : ∀ j, j < N → cnt (1 + 2 * j) = 0 ∧ cnt (2 + 2 * j) = 0) (ht : tr = true → ∃ sa sl sc st, TrIn w tg Bt Bc K cK fr sa sl sc st ms wl WZ) :
    Sent B w0 w tg N Bx Bsys Bmap fr nodes nb S tr Bt Bc K cK wl WZ dst T Q ms 0 (upd val 0 sv) (upd cnt 0 0) (upd cs 0 []) where
  sys := hs
  trc := ht
  c0 := upd_same _ _ _
  c1 := fun j hj => by rw [upd_other _ _ (by omega), (hc j hj).1]; rfl
  c2 := fun j hj => by
    rw [upd_other _ _ (by omega), (hc j hj).2]
    cases tr <;> rfl
  l0 := fun i hi => absurd hi (by omega)
  l1 := fun i hi => absurd hi (by omega)
  l2 := fun _ i hi => absurd hi (by omega)

/-- A message's cells. -/
def MsgIn (w : World) (g p : Nat) (a b : ByteArray) (q : Int) : Prop := w.cell? ⟨g, p * 3, none⟩ = some (.string a) ∧ w.cell? ⟨g, p * 3 + 1, none⟩ = some (.string b) ∧ w.cell? ⟨g, p * 3 + 2, none⟩ = some (.iface 3 (.int .i64 q))
theorem add_zero' (g j : Nat) : (⟨g, 0, none⟩ : Addr).add j = ⟨g, j, none⟩ := by unfold Addr.add; split <;> simp_all
theorem MsgAt.in {w : World} {base n g cap p : Nat} {xs : List Value} {a b : ByteArray} {q : Int} (h : MsgAt xs p a b q) (ho : w.ownsRow base 57 3 (.slice (some ⟨g, 0, none⟩) n cap) n xs) : MsgIn w g p a b q := by
  have hc := ho.cells (g := g) rfl
  refine ⟨?_, ?_, ?_⟩
  · have := hc _ _ h.1; rwa [add_zero'] at this
  · have := hc _ _ h.2.1; rwa [add_zero'] at this
  · have := hc _ _ h.2.2; rwa [add_zero'] at this
theorem own_slice {w : World} {base : Nat} {e : TypeId} {s : Nat} {v : Value} {n : Nat} {xs : List Value} (h : w.ownsRow base e s v n xs) : ∃ a c, v = .slice a n c ∧ (0 < n → ∃ g, a = some ⟨g, 0, none⟩) := by
  rcases h.2 with ⟨rfl, rfl⟩ | ⟨g, cap, cur, rfl, _⟩
  · exact ⟨none, 0, rfl, fun h => absurd h (by omega)⟩
  · exact ⟨_, _, rfl, fun _ => ⟨g, rfl⟩⟩

/-- What the law reads at the end. -/
structure Fin (V : World) (N Bn Bsys fr : Nat) (nb : Nat → Nat) (S : Nat → ByteArray) (tr : Bool) (wl : Nat) (WZ : Nat → Int) (dst : Nat → Nat) (T : Nat → ByteArray) (Q : Nat → Int) (ms : Int) (m : Nat) : Prop where
  nrow : ∀ j, j < N → V.cell? ⟨Bn, j, none⟩ = some (.pointer (some ⟨nb j, 0, none⟩))
  inb : ∀ j, j < N → ∃ a c, V.cell? ⟨nb j, 3, none⟩ = some (.slice a (cntM dst m j) c)
  stm : ∀ j, j < N → ∃ a c, V.cell? ⟨nb j, 4, none⟩ = some (.slice a (if tr then cntM dst m j else 0) c)
  msg : ∀ i, i < m → ∃ g c, V.cell? ⟨nb (dst i), 3, none⟩ = some (.slice (some ⟨g, 0, none⟩) (cntM dst m (dst i)) c) ∧ MsgIn V g (cntM dst i (dst i)) (S fr) (T i) (Q i)
  stp : tr = true → ∀ i, i < m → ∃ g c b cb, V.cell? ⟨nb (dst i), 4, none⟩ = some (.slice (some ⟨g, 0, none⟩) (cntM dst m (dst i)) c) ∧ V.cell? ⟨g, cntM dst i (dst i) * 2, none⟩ = some (.slice b wl cb) ∧
    V.cell? ⟨g, cntM dst i (dst i) * 2 + 1, none⟩ = some (.int .i64 (wrap64 (msI ms i + 1))) ∧ IntsAt V b wl WZ
  out : ∃ a c, V.cell? ⟨Bsys, 9, none⟩ = some (.slice a m c) ∧ ∀ i, i < m → ∃ g, a = some ⟨g, 0, none⟩ ∧ MsgIn V g i (S fr) (T i) (Q i)

theorem cell_below {V W : World} (hb : Below V.heap.size V W) {p : Addr} {v : Value} (h : V.cell? p = some v) : W.cell? p = some v := (hb.cell (World.block_lt_of_cell? V _ h)).trans h
theorem MsgIn.below {V W : World} (hb : Below V.heap.size V W) {g p : Nat} {a b : ByteArray} {q : Int} (h : MsgIn V g p a b q) : MsgIn W g p a b q := ⟨cell_below hb h.1, cell_below hb h.2.1, cell_below hb h.2.2⟩
theorem Fin.below {V W : World} {N Bn Bsys fr : Nat} {nb : Nat → Nat} {S : Nat → ByteArray} {tr : Bool} {wl : Nat} {WZ : Nat → Int} {dst : Nat → Nat} {T : Nat → ByteArray} {Q : Nat → Int} {ms : Int} {m : Nat} (h : Fin V N Bn Bsys fr nb S tr wl WZ dst T Q ms m) (hb : Below V.heap.size V W) : Fin W N Bn Bsys fr nb S tr wl WZ dst T Q ms m where
  nrow := fun j hj => cell_below hb (h.nrow j hj)
  inb := fun j hj => by obtain ⟨a, c, e⟩ := h.inb j hj; exact ⟨a, c, cell_below hb e⟩
  stm := fun j hj => by obtain ⟨a, c, e⟩ := h.stm j hj; exact ⟨a, c, cell_below hb e⟩
  msg := fun i hi => by obtain ⟨g, c, e, e2⟩ := h.msg i hi; exact ⟨g, c, cell_below hb e, e2.below hb⟩
  stp := fun ht i hi => by obtain ⟨g, c, b, cb, e1, e2, e3, e4⟩ := h.stp ht i hi; exact ⟨g, c, b, cb, cell_below hb e1, cell_below hb e2, cell_below hb e3, e4.below hb (Nat.le_refl _)⟩
  out := by
    obtain ⟨a, c, e, e2⟩ := h.out
    refine ⟨a, c, cell_below hb e, fun i hi => ?_⟩
    obtain ⟨g, e3, e4⟩ := e2 i hi
    exact ⟨g, e3, e4.below hb⟩

theorem Sent.fin {B : Nat} {w0 w : World} {tg : Nat → Nat × Nat} {N Bx Bsys Bmap fr : Nat} {nodes : Value} {nb : Nat → Nat} {S : Nat → ByteArray} {tr : Bool} {Bt Bc K cK wl : Nat} {WZ : Nat → Int} {dst : Nat → Nat} {T : Nat → ByteArray} {Q : Nat → Int} {ms : Int} {m : Nat} {val : Nat → Value} {cnt : Nat → Nat} {cs : Nat → List Value} {Bn : Nat} {f : Nat → Value}
    (h : Sent B w0 w tg N Bx Bsys Bmap fr nodes nb S tr Bt Bc K cK wl WZ dst T Q ms m val cnt cs) (hd : ∀ i, i < m → dst i < N) (hn : w.rowIs Bn 44 N f) (hp : ∀ j, j < N → f j = .pointer (some ⟨nb j, 0, none⟩)) : Fin w N Bn Bsys fr nb S tr wl WZ dst T Q ms m where
  nrow := fun j hj => (hn.cell hj).trans (congrArg some (hp j hj))
  inb := fun j hj => by
    obtain ⟨a, c, e, _⟩ := own_slice (h.sys.rows (1 + 2 * j) (by omega))
    have := (h.sys.node j hj).cell (i := 3) (by omega)
    exact ⟨a, c, this.trans (congrArg some (by show val (1 + 2 * j) = _; rw [e, h.c1 j hj]))⟩
  stm := fun j hj => by
    obtain ⟨a, c, e, _⟩ := own_slice (h.sys.rows (2 + 2 * j) (by omega))
    have := (h.sys.node j hj).cell (i := 4) (by omega)
    exact ⟨a, c, this.trans (congrArg some (by show val (2 + 2 * j) = _; rw [e, h.c2 j hj]))⟩
  msg := fun i hi => by
    have hdi := hd i hi
    have hr := h.sys.rows (1 + 2 * dst i) (by omega)
    obtain ⟨a, c, e, hg⟩ := own_slice hr
    have hc := h.c1 _ hdi
    obtain ⟨g, rfl⟩ := hg (by rw [hc]; have := cntM_lt dst hi; omega)
    have hcell := (h.sys.node _ hdi).cell (i := 3) (by omega)
    refine ⟨g, c, hcell.trans (congrArg some (by show val (1 + 2 * dst i) = _; rw [e, hc])), ?_⟩
    rw [e, rty1, rsz1] at hr
    exact (h.l1 i hi).in hr
  stp := fun ht i hi => by
    have hdi := hd i hi
    have hr := h.sys.rows (2 + 2 * dst i) (by omega)
    obtain ⟨a, c, e, hg⟩ := own_slice hr
    have hc := h.c2 _ hdi
    rw [ht, if_pos rfl] at hc
    obtain ⟨g, rfl⟩ := hg (by rw [hc]; have := cntM_lt dst hi; omega)
    have hcell := (h.sys.node _ hdi).cell (i := 4) (by omega)
    obtain ⟨b, cb, h1, h2, h3⟩ := h.l2 ht i hi
    rw [e, rty2, rsz2] at hr
    have hcs := hr.cells (g := g) rfl
    refine ⟨g, c, b, cb, hcell.trans (congrArg some (by show val (2 + 2 * dst i) = _; rw [e, hc])), ?_, ?_, h3.at⟩
    · have := hcs _ _ h1; rwa [add_zero'] at this
    · have := hcs _ _ h2; rwa [add_zero'] at this
  out := by
    have hr := h.sys.rows 0 (by omega)
    obtain ⟨a, c, e, hg⟩ := own_slice hr
    have hcell := h.sys.sys.cell (i := 9) (by omega)
    refine ⟨a, c, hcell.trans (congrArg some (by show val 0 = _; rw [e, h.c0])), fun i hi => ?_⟩
    obtain ⟨g, rfl⟩ := hg (by rw [h.c0]; omega)
    rw [e] at hr
    exact ⟨g, rfl, (h.l0 i hi).in hr⟩
end Go.Proofs.Qxb6608660aFmt

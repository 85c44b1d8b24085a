/- My own work on the program: Send, untraced. -/
import Derived.Test.Qxb6608660aFmtW14
namespace Go.Proofs.Qxb6608660aFmt
open Go.RowKit
set_option linter.unusedSimpArgs false
set_option linter.unusedVariables false

/-- New blocks may bear whatever mark. -/
theorem SysIn.retag {B : Nat} {w0 w : World} {tg tg' : Nat → Nat × Nat} {N Bx Bsys Bmap fr : Nat} {nodes : Value} {nb : Nat → Nat} {nm : Nat → ByteArray} {idx : ByteArray → Option Nat} {tp : Option Addr} {val : Nat → Value} {cnt : Nat → Nat} {cs : Nat → List Value}
    (h : SysIn B w0 w tg N Bx Bsys Bmap fr nodes nb nm idx tp val cnt cs) (ht : ∀ b, b < w.heap.size → tg' b = tg b) : SysIn B w0 w tg' N Bx Bsys Bmap fr nodes nb nm idx tp val cnt cs :=
  { h with
    gx := (ht _ h.ctx.lt).trans h.gx
    gs := (ht _ h.sys.lt).trans h.gs
    gm := by obtain ⟨k, hk⟩ := h.map; exact (ht _ hk.lt).trans h.gm
    gn := fun j hj => (ht _ (h.node j hj).lt).trans (h.gn j hj)
    gr := fun r hr g e => (ht _ ((h.rows r hr).lt g e).2).trans (h.gr r hr g e)
    low := fun b hb => by rw [ht b (Nat.lt_of_lt_of_le hb h.big)]; exact h.low b hb }

/-- The marks of old blocks stay; what is not of the system stays. -/
def Link (tg : Nat → Nat × Nat) (w : World) (tg' : Nat → Nat × Nat) (w' : World) : Prop := (∀ b, b < w.heap.size → tg' b = tg b) ∧ Only (Moved tg) w w'
theorem Link.trans {tg tg1 tg2 : Nat → Nat × Nat} {w w1 w2 : World} (h : Link tg w tg1 w1) (k : Link tg1 w1 tg2 w2) : Link tg w tg2 w2 :=
  ⟨fun b hb => (k.1 b (Nat.lt_of_lt_of_le hb h.2.size)).trans (h.1 b hb), k.2.os.trans h.2.os, k.2.tape.trans h.2.tape, k.2.output.trans h.2.output, Nat.le_trans h.2.size k.2.size,
    fun b hb hp => (k.2.block b (Nat.lt_of_lt_of_le hb h.2.size) (fun e => hp (by show _ ∨ _ ∨ _; rw [← h.1 b hb]; exact e))).trans (h.2.block b hb hp)⟩
theorem Link.later {tg tg' : Nat → Nat × Nat} {w w' : World} (hb : Below w.heap.size w w') (ht : ∀ b, b < w.heap.size → tg' b = tg b) : Link tg w tg' w' := ⟨ht, Only.ofBelow hb⟩
theorem Link.refl (tg : Nat → Nat × Nat) (w : World) : Link tg w tg w := ⟨fun _ _ => rfl, Only.refl _ _⟩

theorem grown_row {W X w1 : World} {v : Value} {Bj : Nat} {t : TypeId} {c : Nat} {F : Nat → Value} (hX : Below W.heap.size W X) (hrow : W.rowIs Bj t c F) (hbj : ∀ b, v.ownBlock = some b → b ≠ Bj) (hgrow : X.grownBy w1 v.ownBlock) : w1.rowIs Bj t c F :=
  (hrow.of_block (hX.block _ hrow.lt)).of_block (hgrow.block _ (by have := hX.size; have := hrow.lt; omega) (fun e => hbj Bj e.symm rfl))

theorem news_new (W : World) (cs : Array Value) (t : TypeId) {H : Nat} (hH : W.heap.size = H) : ∀ j u, cs.toList[j]? = some u → (W.alloc (.cells cs t)).cell? ((⟨H, 0, none⟩ : Addr).add j) = some u := by
  subst hH
  exact World.news_of_block (Deep.blk_alloc_new W (.cells cs t))

theorem rowIs_lit (w : World) (c : Array Value) (t : TypeId) : (w.alloc (.cells c t)).rowIs w.heap.size t c.size (fun i => c.getD i (.bool false)) :=
  World.rowIs_alloc w c t _ (fun i hi => by simp [hi])

/-- Behind one append into the row r. -/
def MidSend (B : Nat) (w0 w : World) (tg : Nat → Nat × Nat) (N Bx Bsys Bmap fr : Nat) (nodes : Value) (nb : Nat → Nat) (nm : Nat → ByteArray) (idx : ByteArray → Option Nat) (tp : Option Addr) (val : Nat → Value) (cnt : Nat → Nat) (cs : Nat → List Value) (r : Nat) (new : List Value) (w' : World) : Prop :=
  ∃ tg' v, Link tg w tg' w' ∧ SysIn B w0 w' tg' N Bx Bsys Bmap fr nodes nb nm idx tp (upd val r v) (upd cnt r (cnt r + 1)) (upd cs r (cs r ++ new))

theorem mid_of {B : Nat} {w0 w X w1 : World} {tg : Nat → Nat × Nat} {N Bx Bsys Bmap fr : Nat} {nodes : Value} {nb : Nat → Nat} {nm : Nat → ByteArray} {idx : ByteArray → Option Nat} {tp : Option Addr} {val : Nat → Value} {cnt : Nat → Nat} {cs : Nat → List Value}
    (h : SysIn B w0 w tg N Bx Bsys Bmap fr nodes nb nm idx tp val cnt cs) {r : Nat} (hr : r < 1 + 2 * N) (hX : Below w.heap.size w X) (hgrow : X.grownBy w1 (val r).ownBlock) {g cap : Nat} {new : List Value} {t : TypeId} {s H b k : Nat}
    (hown : w1.ownsRow B t s (.slice (some ⟨g, 0, none⟩) (cnt r + 1) cap) (cnt r + 1) (cs r ++ new)) (ht : rty r = t) (hs : rsz r = s) (hat : (val r).ownBlock = some g ∨ g = H) (hH : X.heap.size ≤ H) (hb : vb Bsys nb r = b) (hk : vk r = k) :
    MidSend B w0 w tg N Bx Bsys Bmap fr nodes nb nm idx tp val cnt cs r new (w1.setCell ⟨b, k, none⟩ (.slice (some ⟨g, 0, none⟩) (cnt r + 1) cap)) := by
  subst ht hs hb hk
  obtain ⟨tg', h1, h2, h3⟩ := h.grow hr hX hgrow hown (by rcases hat with e | e; exact .inl e; exact .inr (by have := hX.size; omega))
  exact ⟨tg', _, ⟨h1, h2⟩, h3⟩

theorem SysIn.nodeNe {B : Nat} {w0 w : World} {tg : Nat → Nat × Nat} {N Bx Bsys Bmap fr : Nat} {nodes : Value} {nb : Nat → Nat} {nm : Nat → ByteArray} {idx : ByteArray → Option Nat} {tp : Option Addr} {val : Nat → Value} {cnt : Nat → Nat} {cs : Nat → List Value}
    (h : SysIn B w0 w tg N Bx Bsys Bmap fr nodes nb nm idx tp val cnt cs) {r j : Nat} (hr : r < 1 + 2 * N) (hj : j < N) : ∀ b, (val r).ownBlock = some b → b ≠ nb j := fun b e e' => by
  have := h.gr r hr b e
  rw [e', h.gn j hj] at this
  cases this
theorem SysIn.ctxNe {B : Nat} {w0 w : World} {tg : Nat → Nat × Nat} {N Bx Bsys Bmap fr : Nat} {nodes : Value} {nb : Nat → Nat} {nm : Nat → ByteArray} {idx : ByteArray → Option Nat} {tp : Option Addr} {val : Nat → Value} {cnt : Nat → Nat} {cs : Nat → List Value}
    (h : SysIn B w0 w tg N Bx Bsys Bmap fr nodes nb nm idx tp val cnt cs) {r : Nat} (hr : r < 1 + 2 * N) : ∀ b, (val r).ownBlock = some b → b ≠ Bx := fun b e e' => by
  have := h.gr r hr b e
  rw [e', h.gx] at this
  cases this
theorem SysIn.sysNe {B : Nat} {w0 w : World} {tg : Nat → Nat × Nat} {N Bx Bsys Bmap fr : Nat} {nodes : Value} {nb : Nat → Nat} {nm : Nat → ByteArray} {idx : ByteArray → Option Nat} {tp : Option Addr} {val : Nat → Value} {cnt : Nat → Nat} {cs : Nat → List Value}
    (h : SysIn B w0 w tg N Bx Bsys Bmap fr nodes nb nm idx tp val cnt cs) {r : Nat} (hr : r < 1 + 2 * N) : ∀ b, (val r).ownBlock = some b → b ≠ Bsys := fun b e e' => by
  have := h.gr r hr b e
  rw [e', h.gs] at this
  cases this

/-- What a Send leaves. -/
def SendPost (B : Nat) (w0 w : World) (tg : Nat → Nat × Nat) (N Bx Bsys Bmap fr : Nat) (nodes : Value) (nb : Nat → Nat) (nm : Nat → ByteArray) (idx : ByteArray → Option Nat) (tp : Option Addr) (cnt : Nat → Nat) (cs : Nat → List Value) (e : Ending) (w' : World) : Prop :=
  e = .returned (.tuple #[]) ∧ ∃ tg' val', Link tg w tg' w' ∧ SysIn B w0 w' tg' N Bx Bsys Bmap fr nodes nb nm idx tp val' cnt cs
theorem send_end {B : Nat} {w0 w W1 X w1 : World} {tg tg1 : Nat → Nat × Nat} {N Bx Bsys Bmap fr : Nat} {nodes : Value} {nb : Nat → Nat} {nm : Nat → ByteArray} {idx : ByteArray → Option Nat} {tp : Option Addr} {val : Nat → Value} {cnt : Nat → Nat} {cs : Nat → List Value}
    (hl : Link tg w tg1 W1) (h : SysIn B w0 W1 tg1 N Bx Bsys Bmap fr nodes nb nm idx tp val cnt cs) (hX : Below W1.heap.size W1 X) (hgrow : X.grownBy w1 (val 0).ownBlock) {g cap n0 H : Nat} {x0 new : List Value} (e0 : cnt 0 = n0) (s0 : cs 0 = x0)
    (hown : w1.ownsRow B 57 3 (.slice (some ⟨g, 0, none⟩) (n0 + 1) cap) (n0 + 1) (x0 ++ new)) (hat : (val 0).ownBlock = some g ∨ g = H) (hH : X.heap.size ≤ H) :
    SendPost B w0 w tg N Bx Bsys Bmap fr nodes nb nm idx tp (upd cnt 0 (n0 + 1)) (upd cs 0 (x0 ++ new)) (.returned (.tuple #[])) (w1.setCell ⟨Bsys, 9, none⟩ (.slice (some ⟨g, 0, none⟩) (n0 + 1) cap)) := by
  subst e0 s0
  obtain ⟨tg', v, h1, h2⟩ := mid_of (r := 0) h (by omega) hX hgrow hown rfl rfl hat hH (b := Bsys) (k := 9) rfl rfl
  exact ⟨rfl, tg', _, hl.trans h1, h2⟩

set_option maxRecDepth 100000 in
set_option maxHeartbeats 2000000 in
theorem send_plain (B : Nat) (w0 w : World) (tg : Nat → Nat × Nat) (N Bx Bsys Bmap fr : Nat) (nodes : Value) (nb : Nat → Nat) (nm : Nat → ByteArray) (idx : ByteArray → Option Nat) (val : Nat → Value) (cnt : Nat → Nat) (cs : Nat → List Value) (tn : ByteArray) (q : Int) (j : Nat)
    (h : SysIn B w0 w tg N Bx Bsys Bmap fr nodes nb nm idx none val cnt cs) (hsz : tn.size ≤ maxLen) (hto : idx tn = some j) (hc1 : cnt (1 + 2 * j) ≤ 1000000) (hc0 : cnt 0 ≤ 1000000) :
    Calls Tryf.prog 29 #[.pointer (some ⟨Bx, 0, none⟩), .string tn, .iface 3 (.int .i64 q)] w (SendPost B w0 w tg N Bx Bsys Bmap fr nodes nb nm idx none (upd (upd cnt (1 + 2 * j) (cnt (1 + 2 * j) + 1)) 0 (cnt 0 + 1)) (upd (upd cs (1 + 2 * j) (cs (1 + 2 * j) ++ msgCells (nm fr) tn q)) 0 (cs 0 ++ msgCells (nm fr) tn q))) := by
  have hj := h.hidx tn j hto
  obtain ⟨i0, hi0, hz0, hz1, hz2⟩ := info_parts Tryf.info57
  have hx0 : w.cell? ⟨Bx, 0, none⟩ = some (.pointer (some ⟨Bsys, 0, none⟩)) := h.ctx.cell (i := 0) (by omega)
  have hx1 : w.cell? ⟨Bx, 1, none⟩ = some (.pointer (some ⟨nb fr, 0, none⟩)) := h.ctx.cell (i := 1) (by omega)
  have hf0 : w.cell? ⟨nb fr, 0, none⟩ = some (.string (nm fr)) := (h.node fr h.hfr).cell (i := 0) (by omega)
  have hlx : Bx < w.heap.size := h.ctx.lt
  have hlf : nb fr < w.heap.size := (h.node fr h.hfr).lt
  obtain ⟨W, hW⟩ : ∃ W, W = w.alloc (.cells #[.string (nm fr), .string tn, .iface 3 (.int .i64 q)] 57) := ⟨_, rfl⟩
  have hWz : W.heap.size = w.heap.size + 1 := by rw [hW]; simp
  obtain ⟨tm, htm⟩ : ∃ tm : Nat → Nat × Nat, tm = fun b => if b = w.heap.size then (4, 0) else tg b := ⟨_, rfl⟩
  have htm1 : ∀ b, b < w.heap.size → tm b = tg b := fun b hb => by rw [htm]; exact if_neg (by omega)
  have htm2 : tm w.heap.size = (4, 0) := by rw [htm]; exact if_pos rfl
  have hbW : Below w.heap.size w W := by rw [hW]; exact (Below.refl _ _).alloc (Nat.le_refl _) _
  have HLK : Hid (Link tg w tm W) := Link.later hbW htm1
  have HS : Hid (SysIn B w0 W tm N Bx Bsys Bmap fr nodes nb nm idx none val cnt cs) := (h.retag htm1).later hbW
  have HM : Hid (W.rowIs w.heap.size 57 3 (fun i => (#[.string (nm fr), .string tn, .iface 3 (.int .i64 q)] : Array Value).getD i (.bool false)) ∧ tm w.heap.size = (4, 0)) := by
    rw [hW]
    exact ⟨rowIs_lit w _ 57, htm2⟩
  have HL : Hid (Calls Tryf.prog 36 #[.pointer (some ⟨Bsys, 0, none⟩), .string tn] W fun e w' => e = .returned (.pointer (some ⟨nb j, 0, none⟩)) ∧ w' = W) := by
    obtain ⟨k, hk⟩ := HS.out.map
    exact lookup_any Bsys Bmap k _ tn (nb j) _ (HS.out.sys.cell (i := 1) (by omega)) hk hsz (by rw [hto]; rfl)
  clear h htm htm1 htm2 hbW hto
  go_enter Tryf.func29, Tryf.ntmps29
  go_wp2_with fail
  rw [← hW]
  clear hW
  refine HL.out.mono ?_
  rintro e W ⟨rfl, rfl⟩
  clear HL hx0 hx1 hf0
  have HX : Hid (Below W.heap.size W (W.alloc (.cells #[.string (nm fr), .string tn, .iface 3 (.int .i64 q)] 57)).drew) := ((Below.refl _ _).alloc (Nat.le_refl _) _).drew
  have HNW : Hid (∀ j u, (msgCells (nm fr) tn q)[j]? = some u → (W.alloc (.cells #[.string (nm fr), .string tn, .iface 3 (.int .i64 q)] 57)).cell? ((⟨w.heap.size + 1, 0, none⟩ : Addr).add j) = some u) := news_new W _ 57 hWz
  have HONE : Hid (∀ u ∈ msgCells (nm fr) tn q, u.oneCell' = true) := msgCells_one (nm fr) tn q
  have HI1 : Hid ((W.alloc (.cells #[.string (nm fr), .string tn, .iface 3 (.int .i64 q)] 57)).ownsRow B 57 3 (val (1 + 2 * j)) (cnt (1 + 2 * j)) (cs (1 + 2 * j))) := by
    have := HS.out.rows (1 + 2 * j) (by omega)
    rw [show rty (1 + 2 * j) = 57 from by unfold rty; rw [if_neg (by omega)], show rsz (1 + 2 * j) = 3 from by unfold rsz; rw [if_neg (by omega)]] at this
    exact this.alloc _
  have hb2 : B ≤ (W.alloc (.cells #[.string (nm fr), .string tn, .iface 3 (.int .i64 q)] 57)).heap.size := by have := HS.out.big; simp; omega
  have j3 : W.cell? ⟨nb j, 3, none⟩ = some (val (1 + 2 * j)) := (HS.out.node j hj).cell (i := 3) (by omega)
  have m0 : W.cell? ⟨w.heap.size, 0, none⟩ = some (.string (nm fr)) := HM.out.1.cell (i := 0) (by omega)
  have m1 : W.cell? ⟨w.heap.size, 1, none⟩ = some (.string tn) := HM.out.1.cell (i := 1) (by omega)
  have m2 : W.cell? ⟨w.heap.size, 2, none⟩ = some (.iface 3 (.int .i64 q)) := HM.out.1.cell (i := 2) (by omega)
  have hlj : nb j < W.heap.size := (HS.out.node j hj).lt
  have HNE : Hid (∀ b, (val (1 + 2 * j)).ownBlock = some b → b ≠ nb j) := HS.out.nodeNe (by omega) hj
  have j3a := farA (O := .cells #[.string (nm fr), .string tn, .iface 3 (.int .i64 q)] 57) j3
  go_wp2_with fail
  go_cut [7] from 25 to 34 (fun v wc => v = .pointer (some ⟨nb j, 0, none⟩) ∧ MidSend B w0 W tm N Bx Bsys Bmap fr nodes nb nm idx none val cnt cs (1 + 2 * j) (msgCells (nm fr) tn q) wc)
  case first =>
    go_region_law (refine step_append_lies _ rfl (.tmp 29) (.tmp 31) 40 rfl B 57 i0 _ 3 48 Tryf.underlying40 hi0 hz0 hz1 hz2 rfl (by decide) (val (1 + 2 * j)) (cnt (1 + 2 * j)) (cs (1 + 2 * j)) (by simp [Act.eval, Act.put]) (by exact HI1.out) ⟨w.heap.size + 1, 0, none⟩ 1 1 (msgCells (nm fr) tn q) (by simp [Act.eval, Act.put]) rfl (by exact HNW.out) HONE.out (by omega) (by unfold maxLen; omega) (by omega) (by exact hb2) _ rfl ?_; intro g cap w1 hown hgrow hat hlt; have hr1 := grown_row HX.out (HS.out.node j hj) HNE.out hgrow; have t3 := hr1.cell (i := 3) (by omega); have t4 := hr1.frozen 3)
    all_goals
      go_wp2_with fail
      go_meet
      case rel => exact ⟨rfl, mid_of HS.out (by omega) HX.out hgrow hown (by unfold rty; rw [if_neg (by omega)]) (by unfold rsz; rw [if_neg (by omega)]) hat (Nat.le_refl _) (by unfold vb; rw [if_neg (by omega)]; congr 1; omega) (by unfold vk; rw [if_neg (by omega)]; omega)⟩
  case rest =>
    obtain ⟨rfl, tg1, v1, hl1, hs1⟩ := hcut
    obtain ⟨W1, hW1⟩ : ∃ W1, W1 = wc := ⟨_, rfl⟩
    subst hW1
    have HS1 : Hid (SysIn B w0 W1 tg1 N Bx Bsys Bmap fr nodes nb nm idx none (upd val (1 + 2 * j) v1) (upd cnt (1 + 2 * j) (cnt (1 + 2 * j) + 1)) (upd cs (1 + 2 * j) (cs (1 + 2 * j) ++ msgCells (nm fr) tn q))) := hs1
    have HLK1 : Hid (Link tg w tg1 W1) := HLK.out.trans hl1
    have hmB : w.heap.size < W.heap.size := by omega
    have hM1 := hl1.2.row HM.out.1 (fun e => by rcases e with e | e | e <;> rw [HM.out.2] at e <;> cases e)
    clear HS HLK HX HNW HI1 hb2 j3 j3a m0 m1 m2 hlj HNE hl1 hs1
    have m0 : W1.cell? ⟨w.heap.size, 0, none⟩ = some (.string (nm fr)) := hM1.cell (i := 0) (by omega)
    have m1 : W1.cell? ⟨w.heap.size, 1, none⟩ = some (.string tn) := hM1.cell (i := 1) (by omega)
    have m2 : W1.cell? ⟨w.heap.size, 2, none⟩ = some (.iface 3 (.int .i64 q)) := hM1.cell (i := 2) (by omega)
    have hx0 : W1.cell? ⟨Bx, 0, none⟩ = some (.pointer (some ⟨Bsys, 0, none⟩)) := HS1.out.ctx.cell (i := 0) (by omega)
    have y12 : W1.cell? ⟨Bsys, 12, none⟩ = some (.pointer none) := HS1.out.sys.cell (i := 12) (by omega)
    have y9 : W1.cell? ⟨Bsys, 9, none⟩ = some (upd val (1 + 2 * j) v1 0) := HS1.out.sys.cell (i := 9) (by omega)
    have HX : Hid (Below W1.heap.size W1 (W1.alloc (.cells #[.string (nm fr), .string tn, .iface 3 (.int .i64 q)] 57)).drew) := ((Below.refl _ _).alloc (Nat.le_refl _) _).drew
    have HNW : Hid (∀ j u, (msgCells (nm fr) tn q)[j]? = some u → (W1.alloc (.cells #[.string (nm fr), .string tn, .iface 3 (.int .i64 q)] 57)).cell? ((⟨W1.heap.size, 0, none⟩ : Addr).add j) = some u) := news_new W1 _ 57 rfl
    have HI1 : Hid ((W1.alloc (.cells #[.string (nm fr), .string tn, .iface 3 (.int .i64 q)] 57)).ownsRow B 57 3 (upd val (1 + 2 * j) v1 0) (cnt 0) (cs 0)) := by
      have := HS1.out.rows 0 (by omega)
      rw [show rty 0 = 57 from rfl, show rsz 0 = 3 from rfl, upd_other _ _ (show 0 ≠ 1 + 2 * j from by omega), upd_other _ _ (show 0 ≠ 1 + 2 * j from by omega), upd_other _ _ (show 0 ≠ 1 + 2 * j from by omega)] at this
      rw [upd_other _ _ (show 0 ≠ 1 + 2 * j from by omega)]
      exact this.alloc _
    have hb2 : B ≤ (W1.alloc (.cells #[.string (nm fr), .string tn, .iface 3 (.int .i64 q)] 57)).heap.size := by have := HS1.out.big; simp; omega
    have HNE : Hid (∀ b, (upd val (1 + 2 * j) v1 0).ownBlock = some b → b ≠ Bsys) := HS1.out.sysNe (r := 0) (by omega)
    have hls : Bsys < W1.heap.size := HS1.out.sys.lt
    have hlx1 : Bx < W1.heap.size := HS1.out.ctx.lt
    have HNX : Hid (∀ b, (upd val (1 + 2 * j) v1 0).ownBlock = some b → b ≠ Bx) := HS1.out.ctxNe (r := 0) (by omega)
    have y9a := farA (O := .cells #[.string (nm fr), .string tn, .iface 3 (.int .i64 q)] 57) y9
    have hx0a := farA (O := .cells #[.string (nm fr), .string tn, .iface 3 (.int .i64 q)] 57) hx0
    go_upto_region 6 with fail
    go_region_law (refine step_append_lies _ rfl (.tmp 69) (.tmp 71) 40 rfl B 57 i0 _ 3 48 Tryf.underlying40 hi0 hz0 hz1 hz2 rfl (by decide) (upd val (1 + 2 * j) v1 0) (cnt 0) (cs 0) (by simp [Act.eval, Act.put]) (by exact HI1.out) ⟨W1.heap.size, 0, none⟩ 1 1 (msgCells (nm fr) tn q) (by simp [Act.eval, Act.put]) rfl (by exact HNW.out) HONE.out (by omega) (by unfold maxLen; omega) (by omega) (by exact hb2) _ rfl ?_; intro g cap w1 hown hgrow hat hlt; have hr2 := (grown_row HX.out HS1.out.ctx HNX.out hgrow).cell (i := 0) (by omega); have hx0b : w1.cell? ⟨Bx, 0, none⟩ = some (.pointer (some ⟨Bsys, 0, none⟩)) := hr2; have hr1 := grown_row HX.out HS1.out.sys HNE.out hgrow; have t3 := hr1.cell (i := 9) (by omega); have t4 := hr1.frozen 9)
    all_goals
      have HEND : Hid (SendPost B w0 w tg N Bx Bsys Bmap fr nodes nb nm idx none (upd (upd cnt (1 + 2 * j) (cnt (1 + 2 * j) + 1)) 0 (cnt 0 + 1)) (upd (upd cs (1 + 2 * j) (cs (1 + 2 * j) ++ msgCells (nm fr) tn q)) 0 (cs 0 ++ msgCells (nm fr) tn q)) (.returned (.tuple #[])) (w1.setCell ⟨Bsys, 9, none⟩ (.slice (some ⟨g, 0, none⟩) (cnt 0 + 1) cap))) :=
        send_end HLK1.out HS1.out HX.out hgrow (upd_other _ _ (by omega)) (upd_other _ _ (by omega)) hown hat (Nat.le_refl _)
      clear hown hgrow hat hr1 hr2
      go_wp2_with fail
      exact bodyPost_end (v := .tuple #[]) (by simp [results, Tryf.results29, go_sem]) rfl HEND.out
end Go.Proofs.Qxb6608660aFmt

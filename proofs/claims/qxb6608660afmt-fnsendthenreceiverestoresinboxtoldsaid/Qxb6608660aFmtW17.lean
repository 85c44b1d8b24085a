/- My own work on the program: Send, traced. -/
import Derived.Test.Qxb6608660aFmtW16
namespace Go.Proofs.Qxb6608660aFmt
open Go.RowKit
set_option linter.unusedSimpArgs false
set_option linter.unusedVariables false

/-- What a traced Send leaves: the three rows grown; n the stamp's number. -/
def SendPostT (B : Nat) (w0 w : World) (tg : Nat → Nat × Nat) (N Bx Bsys Bmap fr : Nat) (nodes : Value) (nb : Nat → Nat) (nm : Nat → ByteArray) (idx : ByteArray → Option Nat) (Bt Bc K cK : Nat) (st ms : Int) (wl : Nat) (WZ : Nat → Int) (cnt : Nat → Nat) (cs : Nat → List Value) (j : Nat) (new : List Value) (e : Ending) (w' : World) : Prop :=
  e = .returned (.tuple #[]) ∧ ∃ tg' val' b c, Link3 tg w tg' w' ∧ CInts w' tg' b wl WZ ∧ TrIn w' tg' Bt Bc K cK fr b wl c (wrap64 (st + 1)) (wrap64 (ms + 1)) wl WZ ∧
    SysIn B w0 w' tg' N Bx Bsys Bmap fr nodes nb nm idx (some ⟨Bt, 0, none⟩) val' (upd (upd (upd cnt (1 + 2 * j) (cnt (1 + 2 * j) + 1)) (2 + 2 * j) (cnt (2 + 2 * j) + 1)) 0 (cnt 0 + 1))
      (upd (upd (upd cs (1 + 2 * j) (cs (1 + 2 * j) ++ new)) (2 + 2 * j) (cs (2 + 2 * j) ++ stCells b wl c (wrap64 (ms + 1)))) 0 (cs 0 ++ new))
/-- Behind the stamp and its append. -/
def MidT (B : Nat) (w0 w : World) (tg : Nat → Nat × Nat) (N Bx Bsys Bmap fr : Nat) (nodes : Value) (nb : Nat → Nat) (nm : Nat → ByteArray) (idx : ByteArray → Option Nat) (Bt Bc K cK : Nat) (st ms : Int) (wl : Nat) (WZ : Nat → Int) (val : Nat → Value) (cnt : Nat → Nat) (cs : Nat → List Value) (r n0 : Nat) (x0 : List Value) (w' : World) : Prop :=
  ∃ tg' v b c, Link3 tg w tg' w' ∧ CInts w' tg' b wl WZ ∧ TrIn w' tg' Bt Bc K cK fr b wl c (wrap64 (st + 1)) (wrap64 (ms + 1)) wl WZ ∧
    SysIn B w0 w' tg' N Bx Bsys Bmap fr nodes nb nm idx (some ⟨Bt, 0, none⟩) (upd val r v) (upd cnt r (n0 + 1)) (upd cs r (x0 ++ stCells b wl c (wrap64 (ms + 1))))
theorem midT_of {B : Nat} {w0 w w2 X w3 : World} {tg tg2 : Nat → Nat × Nat} {N Bx Bsys Bmap fr : Nat} {nodes : Value} {nb : Nat → Nat} {nm : Nat → ByteArray} {idx : ByteArray → Option Nat} {Bt Bc K cK : Nat} {st ms : Int} {wl : Nat} {WZ : Nat → Int} {val : Nat → Value} {cnt : Nat → Nat} {cs : Nat → List Value} {b : Option Addr} {c : Nat}
    (h : SysIn B w0 w tg N Bx Bsys Bmap fr nodes nb nm idx (some ⟨Bt, 0, none⟩) val cnt cs) (hgt : tg Bt = (3, 0)) (ht2 : ∀ b, b < w.heap.size → tg2 b = tg b) (ho : Only (· = Bt) w w2) (hz : CInts w2 tg2 b wl WZ) (htr : TrIn w2 tg2 Bt Bc K cK fr b wl c (wrap64 (st + 1)) (wrap64 (ms + 1)) wl WZ)
    {r : Nat} (hr : r < 1 + 2 * N) (hX : Below w2.heap.size w2 X) (hgrow : X.grownBy w3 (val r).ownBlock) {g cap n0 : Nat} {x0 : List Value} {t : TypeId} {s H bb k : Nat} (e0 : cnt r = n0) (s0 : cs r = x0)
    (hown : w3.ownsRow B t s (.slice (some ⟨g, 0, none⟩) (n0 + 1) cap) (n0 + 1) (x0 ++ stCells b wl c (wrap64 (ms + 1)))) (ht : rty r = t) (hs : rsz r = s) (hat : (val r).ownBlock = some g ∨ g = H) (hH : X.heap.size ≤ H) (hb : vb Bsys nb r = bb) (hk : vk r = k) :
    MidT B w0 w tg N Bx Bsys Bmap fr nodes nb nm idx Bt Bc K cK st ms wl WZ val cnt cs r n0 x0 (w3.setCell ⟨bb, k, none⟩ (.slice (some ⟨g, 0, none⟩) (n0 + 1) cap)) := by
  subst e0 s0
  have h2 := (h.retag ht2).keep ho (fun b e => by rw [e, htr.gt])
  obtain ⟨tg', v, h1, h3⟩ := mid_of h2 hr hX hgrow hown ht hs hat hH hb hk
  have hl3 : Link3 tg w tg2 w2 := ⟨ht2, ho.mono (fun b e => .inr (by rw [e, hgt]))⟩
  exact ⟨tg', v, b, c, hl3.trans h1.three, hz.link h1.three, htr.link h1, h3⟩
theorem sendT_end {B : Nat} {w0 w W2 X w1 : World} {tg tg2 : Nat → Nat × Nat} {N Bx Bsys Bmap fr : Nat} {nodes : Value} {nb : Nat → Nat} {nm : Nat → ByteArray} {idx : ByteArray → Option Nat} {Bt Bc K cK : Nat} {st ms : Int} {wl : Nat} {WZ : Nat → Int} {val : Nat → Value} {cnt : Nat → Nat} {cs : Nat → List Value} {j c : Nat} {b : Option Addr} {new : List Value}
    (hl : Link3 tg w tg2 W2) (hz : CInts W2 tg2 b wl WZ) (htr : TrIn W2 tg2 Bt Bc K cK fr b wl c (wrap64 (st + 1)) (wrap64 (ms + 1)) wl WZ)
    (h : SysIn B w0 W2 tg2 N Bx Bsys Bmap fr nodes nb nm idx (some ⟨Bt, 0, none⟩) val (upd (upd cnt (1 + 2 * j) (cnt (1 + 2 * j) + 1)) (2 + 2 * j) (cnt (2 + 2 * j) + 1)) (upd (upd cs (1 + 2 * j) (cs (1 + 2 * j) ++ new)) (2 + 2 * j) (cs (2 + 2 * j) ++ stCells b wl c (wrap64 (ms + 1)))))
    (hX : Below W2.heap.size W2 X) (hgrow : X.grownBy w1 (val 0).ownBlock) {g cap H : Nat}
    (e0 : upd (upd cnt (1 + 2 * j) (cnt (1 + 2 * j) + 1)) (2 + 2 * j) (cnt (2 + 2 * j) + 1) 0 = cnt 0) (s0 : upd (upd cs (1 + 2 * j) (cs (1 + 2 * j) ++ new)) (2 + 2 * j) (cs (2 + 2 * j) ++ stCells b wl c (wrap64 (ms + 1))) 0 = cs 0)
    (hown : w1.ownsRow B 57 3 (.slice (some ⟨g, 0, none⟩) (cnt 0 + 1) cap) (cnt 0 + 1) (cs 0 ++ new)) (hat : (val 0).ownBlock = some g ∨ g = H) (hH : X.heap.size ≤ H) :
    SendPostT B w0 w tg N Bx Bsys Bmap fr nodes nb nm idx Bt Bc K cK st ms wl WZ cnt cs j new (.returned (.tuple #[])) (w1.setCell ⟨Bsys, 9, none⟩ (.slice (some ⟨g, 0, none⟩) (cnt 0 + 1) cap)) := by
  obtain ⟨tg', v, h1, h2⟩ := mid_of (r := 0) (new := new) h (by omega) hX hgrow (by rw [e0, s0]; exact hown) rfl rfl hat hH (b := Bsys) (k := 9) rfl rfl
  rw [e0, s0] at h2
  rw [e0] at h1
  exact ⟨rfl, tg', _, b, c, hl.trans h1.three, hz.link h1.three, htr.link h1, h2⟩

set_option maxRecDepth 100000 in
set_option maxHeartbeats 4000000 in
theorem send_traced (B : Nat) (w0 w : World) (tg : Nat → Nat × Nat) (N Bx Bsys Bmap fr : Nat) (nodes : Value) (nb : Nat → Nat) (nm : Nat → ByteArray) (idx : ByteArray → Option Nat) (val : Nat → Value) (cnt : Nat → Nat) (cs : Nat → List Value) (tn : ByteArray) (q : Int) (j : Nat)
    (Bt Bc K cK : Nat) (sa : Option Addr) (sl sc : Nat) (st ms : Int) (wl : Nat) (WZ : Nat → Int) (h : SysIn B w0 w tg N Bx Bsys Bmap fr nodes nb nm idx (some ⟨Bt, 0, none⟩) val cnt cs) (ht : TrIn w tg Bt Bc K cK fr sa sl sc st ms wl WZ) (hc2 : cnt (2 + 2 * j) ≤ 1000000) (hsz : tn.size ≤ maxLen) (hto : idx tn = some j) (hc1 : cnt (1 + 2 * j) ≤ 1000000) (hc0 : cnt 0 ≤ 1000000) :
    Calls Tryf.prog 29 #[.pointer (some ⟨Bx, 0, none⟩), .string tn, .iface 3 (.int .i64 q)] w (SendPostT B w0 w tg N Bx Bsys Bmap fr nodes nb nm idx Bt Bc K cK st ms wl WZ cnt cs j (msgCells (nm fr) tn q)) := by
  have hj := h.hidx tn j hto
  obtain ⟨i0, hi0, hz0, hz1, hz2⟩ := info_parts Tryf.info57
  have hx0 : w.cell? ⟨Bx, 0, none⟩ = some (.pointer (some ⟨Bsys, 0, none⟩)) := h.ctx.cell (i := 0) (by omega)
  have hx1 : w.cell? ⟨Bx, 1, none⟩ = some (.pointer (some ⟨nb fr, 0, none⟩)) := h.ctx.cell (i := 1) (by omega)
  have hf0 : w.cell? ⟨nb fr, 0, none⟩ = some (.string (nm fr)) := (h.node fr h.hfr).cell (i := 0) (by omega)
  have hlx : Bx < w.heap.size := h.ctx.lt
  have hlf : nb fr < w.heap.size := (h.node fr h.hfr).lt
  obtain ⟨W, hW⟩ : ∃ W, W = w.alloc (.cells #[.string (nm fr), .string tn, .iface 3 (.int .i64 q)] 57) := ⟨_, rfl⟩
  have hWz : W.heap.size = w.heap.size + 1 := by rw [hW]; simp
  obtain ⟨tm, htm⟩ : ∃ tm : Nat → Nat × Nat, tm = fun b => if b = w.heap.size then (4, 0) else tg b := ⟨_, rfl⟩
  have htm1 : ∀ b, b < w.heap.size → tm b = tg b := fun b hb => by rw [htm]; exact if_neg (by omega)
  have htm2 : tm w.heap.size = (4, 0) := by rw [htm]; exact if_pos rfl
  have hbW : Below w.heap.size w W := by rw [hW]; exact (Below.refl _ _).alloc (Nat.le_refl _) _
  have HLK : Hid (Link tg w tm W) := Link.later hbW htm1
  have HS : Hid (SysIn B w0 W tm N Bx Bsys Bmap fr nodes nb nm idx (some ⟨Bt, 0, none⟩) val cnt cs) := (h.retag htm1).later hbW
  have HM : Hid (W.rowIs w.heap.size 57 3 (fun i => (#[.string (nm fr), .string tn, .iface 3 (.int .i64 q)] : Array Value).getD i (.bool false)) ∧ tm w.heap.size = (4, 0)) := by
    rw [hW]
    exact ⟨rowIs_lit w _ 57, htm2⟩
  have HL : Hid (Calls Tryf.prog 36 #[.pointer (some ⟨Bsys, 0, none⟩), .string tn] W fun e w' => e = .returned (.pointer (some ⟨nb j, 0, none⟩)) ∧ w' = W) := by
    obtain ⟨k, hk⟩ := HS.out.map
    exact lookup_any Bsys Bmap k _ tn (nb j) _ (HS.out.sys.cell (i := 1) (by omega)) hk hsz (by rw [hto]; rfl)
  have HT : Hid (TrIn W tm Bt Bc K cK fr sa sl sc st ms wl WZ) := ht.link HLK.out
  obtain ⟨i1, hi1, hy0, hy1, hy2⟩ := info_parts Tryf.info52
  clear h ht htm htm1 htm2 hbW hto
  go_enter Tryf.func29, Tryf.ntmps29
  go_wp2_with fail
  rw [← hW]
  clear hW
  refine HL.out.mono ?_
  rintro e W ⟨rfl, rfl⟩
  clear HL hx0 hx1 hf0
  have HX : Hid (Below W.heap.size W (W.alloc (.cells #[.string (nm fr), .string tn, .iface 3 (.int .i64 q)] 57)).drew) := ((Below.refl _ _).alloc (Nat.le_refl _) _).drew
  have HNW : Hid (∀ j u, (msgCells (nm fr) tn q)[j]? = some u → (W.alloc (.cells #[.string (nm fr), .string tn, .iface 3 (.int .i64 q)] 57)).cell? ((⟨w.heap.size + 1, 0, none⟩ : Addr).add j) = some u) := news_new W _ 57 hWz
  have HONE : Hid (∀ u ∈ msgCells (nm fr) tn q, u.oneCell' = true) := msgCells_one (nm fr) tn q
  have HI1 : Hid ((W.alloc (.cells #[.string (nm fr), .string tn, .iface 3 (.int .i64 q)] 57)).ownsRow B 57 3 (val (1 + 2 * j)) (cnt (1 + 2 * j)) (cs (1 + 2 * j))) := by
    have := HS.out.rows (1 + 2 * j) (by omega)
    rw [show rty (1 + 2 * j) = 57 from by unfold rty; rw [if_neg (by omega)], show rsz (1 + 2 * j) = 3 from by unfold rsz; rw [if_neg (by omega)]] at this
    exact this.alloc _
  have hb2 : B ≤ (W.alloc (.cells #[.string (nm fr), .string tn, .iface 3 (.int .i64 q)] 57)).heap.size := by have := HS.out.big; simp; omega
  have j3 : W.cell? ⟨nb j, 3, none⟩ = some (val (1 + 2 * j)) := (HS.out.node j hj).cell (i := 3) (by omega)
  have m0 : W.cell? ⟨w.heap.size, 0, none⟩ = some (.string (nm fr)) := HM.out.1.cell (i := 0) (by omega)
  have m1 : W.cell? ⟨w.heap.size, 1, none⟩ = some (.string tn) := HM.out.1.cell (i := 1) (by omega)
  have m2 : W.cell? ⟨w.heap.size, 2, none⟩ = some (.iface 3 (.int .i64 q)) := HM.out.1.cell (i := 2) (by omega)
  have hlj : nb j < W.heap.size := (HS.out.node j hj).lt
  have HNE : Hid (∀ b, (val (1 + 2 * j)).ownBlock = some b → b ≠ nb j) := HS.out.nodeNe (by omega) hj
  have j3a := farA (O := .cells #[.string (nm fr), .string tn, .iface 3 (.int .i64 q)] 57) j3
  go_wp2_with fail
  go_cut [7] from 25 to 34 (fun v wc => v = .pointer (some ⟨nb j, 0, none⟩) ∧ MidSend B w0 W tm N Bx Bsys Bmap fr nodes nb nm idx (some ⟨Bt, 0, none⟩) val cnt cs (1 + 2 * j) (msgCells (nm fr) tn q) wc)
  case first =>
    go_region_law (refine step_append_lies _ rfl (.tmp 29) (.tmp 31) 40 rfl B 57 i0 _ 3 48 Tryf.underlying40 hi0 hz0 hz1 hz2 rfl (by decide) (val (1 + 2 * j)) (cnt (1 + 2 * j)) (cs (1 + 2 * j)) (by simp [Act.eval, Act.put]) (by exact HI1.out) ⟨w.heap.size + 1, 0, none⟩ 1 1 (msgCells (nm fr) tn q) (by simp [Act.eval, Act.put]) rfl (by exact HNW.out) HONE.out (by omega) (by unfold maxLen; omega) (by omega) (by exact hb2) _ rfl ?_; intro g cap w1 hown hgrow hat hlt; have hr1 := grown_row HX.out (HS.out.node j hj) HNE.out hgrow; have t3 := hr1.cell (i := 3) (by omega); have t4 := hr1.frozen 3)
    all_goals
      go_wp2_with fail
      go_meet
      case rel => exact ⟨rfl, mid_of HS.out (by omega) HX.out hgrow hown (by unfold rty; rw [if_neg (by omega)]) (by unfold rsz; rw [if_neg (by omega)]) hat (Nat.le_refl _) (by unfold vb; rw [if_neg (by omega)]; congr 1; omega) (by unfold vk; rw [if_neg (by omega)]; omega)⟩
  case rest =>
    obtain ⟨rfl, tg1, v1, hl1, hs1⟩ := hcut
    obtain ⟨W1, hW1⟩ : ∃ W1, W1 = wc := ⟨_, rfl⟩
    subst hW1
    have HS1 : Hid (SysIn B w0 W1 tg1 N Bx Bsys Bmap fr nodes nb nm idx (some ⟨Bt, 0, none⟩) (upd val (1 + 2 * j) v1) (upd cnt (1 + 2 * j) (cnt (1 + 2 * j) + 1)) (upd cs (1 + 2 * j) (cs (1 + 2 * j) ++ msgCells (nm fr) tn q))) := hs1
    have HLK1 : Hid (Link tg w tg1 W1) := HLK.out.trans hl1
    have hmB : w.heap.size < W.heap.size := by omega
    have hM1 := hl1.2.row HM.out.1 (fun e => by rcases e with e | e | e <;> rw [HM.out.2] at e <;> cases e)
    have HM1 : Hid (W1.rowIs w.heap.size 57 3 (fun i => (#[.string (nm fr), .string tn, .iface 3 (.int .i64 q)] : Array Value).getD i (.bool false)) ∧ tg1 w.heap.size = (4, 0)) := ⟨hM1, (hl1.1 _ hmB).trans HM.out.2⟩
    have HT1 : Hid (TrIn W1 tg1 Bt Bc K cK fr sa sl sc st ms wl WZ) := HT.out.link hl1
    clear HS HLK HX HNW HI1 hb2 j3 j3a m0 m1 m2 hlj HNE hl1 hs1 HM HT hM1 hmB
    have hx0 : W1.cell? ⟨Bx, 0, none⟩ = some (.pointer (some ⟨Bsys, 0, none⟩)) := HS1.out.ctx.cell (i := 0) (by omega)
    have hx1 : W1.cell? ⟨Bx, 1, none⟩ = some (.pointer (some ⟨nb fr, 0, none⟩)) := HS1.out.ctx.cell (i := 1) (by omega)
    have y12 : W1.cell? ⟨Bsys, 12, none⟩ = some (.pointer (some ⟨Bt, 0, none⟩)) := HS1.out.sys.cell (i := 12) (by omega)
    have j4 : W1.cell? ⟨nb j, 4, none⟩ = some (upd val (1 + 2 * j) v1 (2 + 2 * j)) := (HS1.out.node j hj).cell (i := 4) (by omega)
    have hf1 : W1.cell? ⟨nb fr, 1, none⟩ = some (.int .i64 fr) := (HS1.out.node fr HS1.out.hfr).cell (i := 1) (by omega)
    have HCALL : Hid (Calls Tryf.prog 37 #[.pointer (some ⟨Bt, 0, none⟩), .pointer (some ⟨nb fr, 0, none⟩)] W1.drew (StampAll W1.drew tg1 Bt Bc K cK fr st ms wl WZ)) :=
      stamp_any W1.drew tg1 Bt Bc K cK fr (nb fr) sa sl sc st ms wl WZ (HT1.out.link (Link.later (Below.refl _ _).drew (fun _ _ => rfl))) hf1 (fun e => by have := HS1.out.gn fr HS1.out.hfr; rw [e, HT1.out.gt] at this; cases this)
    clear hf1
    go_upto_region 5 with fail
    go_cut [7] from 44 to 58 (fun v wc => v = .pointer (some ⟨nb j, 0, none⟩) ∧ MidT B w0 W1 tg1 N Bx Bsys Bmap fr nodes nb nm idx Bt Bc K cK st ms wl WZ (upd val (1 + 2 * j) v1) (upd cnt (1 + 2 * j) (cnt (1 + 2 * j) + 1)) (upd cs (1 + 2 * j) (cs (1 + 2 * j) ++ msgCells (nm fr) tn q)) (2 + 2 * j) (cnt (2 + 2 * j)) (cs (2 + 2 * j)) wc)
    case first =>
      have HX : Hid (∀ (w2 : World) (b : Option Addr) (c : Nat) (n : Int), Below w2.heap.size w2 (w2.alloc (.cells #[.slice b wl c, .int .i64 n] 52))) := fun w2 b c n => (Below.refl _ _).alloc (Nat.le_refl _) _
      have HNJ : Hid (∀ b, (upd val (1 + 2 * j) v1 (2 + 2 * j)).ownBlock = some b → b ≠ nb j) := HS1.out.nodeNe (by omega) hj
      have HBT : Hid (nb j ≠ Bt) := fun e => by have := HS1.out.gn j hj; rw [e, HT1.out.gt] at this; cases this
      have HR1 : Hid (W1.ownsRow B 52 2 (upd val (1 + 2 * j) v1 (2 + 2 * j)) (cnt (2 + 2 * j)) (cs (2 + 2 * j))) := by
        have := HS1.out.rows (2 + 2 * j) (by omega)
        rw [show rty (2 + 2 * j) = 52 from by unfold rty; rw [if_pos (by omega)], show rsz (2 + 2 * j) = 2 from by unfold rsz; rw [if_pos (by omega)], upd_other cnt _ (by omega), upd_other cs _ (by omega)] at this
        exact this
      have HKE : Hid (∀ w2, Only (· = Bt) W1.drew w2 → SysIn B w0 w2 tg1 N Bx Bsys Bmap fr nodes nb nm idx (some ⟨Bt, 0, none⟩) (upd val (1 + 2 * j) v1) (upd cnt (1 + 2 * j) (cnt (1 + 2 * j) + 1)) (upd cs (1 + 2 * j) (cs (1 + 2 * j) ++ msgCells (nm fr) tn q))) := fun w2 ho => (HS1.out.later (Below.refl _ _).drew).keep ho (fun b e => by rw [e, HT1.out.gt])
      have HONE2 : Hid (∀ b c n, ∀ u ∈ stCells b wl c n, u.oneCell' = true) := fun b c n => stCells_one b wl c n
      go_region_law (first
        | (refine step_append_lies _ rfl (.tmp 48) (.tmp 55) 47 rfl B 52 i1 _ 2 32 Tryf.underlying47 hi1 hy0 hy1 hy2 rfl (by decide) (upd val (1 + 2 * j) v1 (2 + 2 * j)) (cnt (2 + 2 * j)) (cs (2 + 2 * j)) (by simp [Act.eval, Act.put]) (by have := (HKE.out w2 HW2.out.2.2.2).rows (2 + 2 * j) (by omega); rw [show rty (2 + 2 * j) = 52 from by unfold rty; rw [if_pos (by omega)], show rsz (2 + 2 * j) = 2 from by unfold rsz; rw [if_pos (by omega)], upd_other cnt _ (by omega), upd_other cs _ (by omega)] at this; exact this.alloc _) ⟨w2.heap.size, 0, none⟩ 1 1 (stCells b wl c (wrap64 (ms + 1))) (by simp [Act.eval, Act.put]) rfl (news_new w2 _ 52 rfl) (HONE2.out b c _) (by omega) (by unfold maxLen; omega) (by omega) (by have := (HKE.out w2 HW2.out.2.2.2).big; simp; omega) _ rfl ?_; intro g cap w3 hown hgrow hat hlt; (have hr1 := grown_row (HX.out w2 b c (wrap64 (ms + 1))) ((HKE.out w2 HW2.out.2.2.2).node j hj) HNJ.out hgrow); (have t3 := hr1.cell (i := 4) (by omega)); (have t4 := hr1.frozen 4))
        | (go_simp; go_at_call 37; refine HCALL.out.mono ?_; rintro e w2 ⟨tg2, b, c, htg2, rfl, hz, htr, ho⟩; (have HW2 : Hid ((∀ b, b < W1.heap.size → tg2 b = tg1 b) ∧ CInts w2 tg2 b wl WZ ∧ TrIn w2 tg2 Bt Bc K cK fr b wl c (wrap64 (st + 1)) (wrap64 (ms + 1)) wl WZ ∧ Only (· = Bt) W1.drew w2) := ⟨htg2, hz, htr, ho⟩); (have hsk := HKE.out w2 ho); (have j4b : w2.cell? ⟨nb j, 4, none⟩ = some (upd val (1 + 2 * j) v1 (2 + 2 * j)) := (hsk.node j hj).cell (i := 4) (by omega)); (have j4c := farA (O := .cells #[.slice b wl c, .int .i64 (wrap64 (ms + 1))] 52) j4b); clear htg2 hz htr ho hsk))
      all_goals
        have hmt := midT_of (n0 := cnt (2 + 2 * j)) (x0 := cs (2 + 2 * j)) HS1.out HT1.out.gt HW2.out.1 (show Only (· = Bt) W1 w2 from ⟨HW2.out.2.2.2.os, HW2.out.2.2.2.tape, HW2.out.2.2.2.output, HW2.out.2.2.2.size, HW2.out.2.2.2.block⟩) HW2.out.2.1 HW2.out.2.2.1 (r := 2 + 2 * j) (by omega) (HX.out w2 b c (wrap64 (ms + 1))) hgrow (upd_other cnt _ (by omega)) (upd_other cs _ (by omega)) hown (by unfold rty; rw [if_pos (by omega)]) (by unfold rsz; rw [if_pos (by omega)]) hat (Nat.le_refl _) (bb := nb j) (k := 4) (by unfold vb; rw [if_neg (by omega)]; congr 1; omega) (by unfold vk; rw [if_neg (by omega)]; omega)
        have HMT : Hid (MidT B w0 W1 tg1 N Bx Bsys Bmap fr nodes nb nm idx Bt Bc K cK st ms wl WZ (upd val (1 + 2 * j) v1) (upd cnt (1 + 2 * j) (cnt (1 + 2 * j) + 1)) (upd cs (1 + 2 * j) (cs (1 + 2 * j) ++ msgCells (nm fr) tn q)) (2 + 2 * j) (cnt (2 + 2 * j)) (cs (2 + 2 * j)) (w3.setCell ⟨nb j, 4, none⟩ (.slice (some ⟨g, 0, none⟩) (cnt (2 + 2 * j) + 1) cap))) := hmt
        clear hmt hown hgrow hat hr1
        go_wp2_with fail
        go_meet
        case rel => exact ⟨rfl, HMT.out⟩
    case rest =>
      obtain ⟨rfl, tg2, v2, b, c, hl2, hz2, ht2, hs2⟩ := hcut
      obtain ⟨W2, hW2⟩ : ∃ W2, W2 = wc := ⟨_, rfl⟩
      subst hW2
      have HS2 : Hid (SysIn B w0 W2 tg2 N Bx Bsys Bmap fr nodes nb nm idx (some ⟨Bt, 0, none⟩) (upd (upd val (1 + 2 * j) v1) (2 + 2 * j) v2) (upd (upd cnt (1 + 2 * j) (cnt (1 + 2 * j) + 1)) (2 + 2 * j) (cnt (2 + 2 * j) + 1)) (upd (upd cs (1 + 2 * j) (cs (1 + 2 * j) ++ msgCells (nm fr) tn q)) (2 + 2 * j) (cs (2 + 2 * j) ++ stCells b wl c (wrap64 (ms + 1))))) := hs2
      have HL2 : Hid (Link3 tg w tg2 W2 ∧ CInts W2 tg2 b wl WZ ∧ TrIn W2 tg2 Bt Bc K cK fr b wl c (wrap64 (st + 1)) (wrap64 (ms + 1)) wl WZ) := ⟨HLK1.out.three.trans hl2, hz2, ht2⟩
      have hM2 := hl2.row HM1.out.1 (by rw [HM1.out.2]; exact .inl rfl)
      clear HS1 HLK1 hx0 hx1 y12 j4 HCALL HM1 HT1 hl2 hz2 ht2 hs2
      have m0 : W2.cell? ⟨w.heap.size, 0, none⟩ = some (.string (nm fr)) := hM2.cell (i := 0) (by omega)
      have m1 : W2.cell? ⟨w.heap.size, 1, none⟩ = some (.string tn) := hM2.cell (i := 1) (by omega)
      have m2 : W2.cell? ⟨w.heap.size, 2, none⟩ = some (.iface 3 (.int .i64 q)) := hM2.cell (i := 2) (by omega)
      clear hM2
      obtain ⟨vv, hvv⟩ : ∃ vv, vv = upd (upd val (1 + 2 * j) v1) (2 + 2 * j) v2 := ⟨_, rfl⟩
      rw [← hvv] at HS2
      clear hvv
      have hx0 : W2.cell? ⟨Bx, 0, none⟩ = some (.pointer (some ⟨Bsys, 0, none⟩)) := HS2.out.ctx.cell (i := 0) (by omega)
      have y9 : W2.cell? ⟨Bsys, 9, none⟩ = some (vv 0) := HS2.out.sys.cell (i := 9) (by omega)
      have HX : Hid (Below W2.heap.size W2 (W2.alloc (.cells #[.string (nm fr), .string tn, .iface 3 (.int .i64 q)] 57)).drew) := ((Below.refl _ _).alloc (Nat.le_refl _) _).drew
      have HNW : Hid (∀ j u, (msgCells (nm fr) tn q)[j]? = some u → (W2.alloc (.cells #[.string (nm fr), .string tn, .iface 3 (.int .i64 q)] 57)).cell? ((⟨W2.heap.size, 0, none⟩ : Addr).add j) = some u) := news_new W2 _ 57 rfl
      have e0 : upd (upd cnt (1 + 2 * j) (cnt (1 + 2 * j) + 1)) (2 + 2 * j) (cnt (2 + 2 * j) + 1) 0 = cnt 0 := by rw [upd_other _ _ (show 0 ≠ 2 + 2 * j from by omega), upd_other _ _ (show 0 ≠ 1 + 2 * j from by omega)]
      have e1 : upd (upd cs (1 + 2 * j) (cs (1 + 2 * j) ++ msgCells (nm fr) tn q)) (2 + 2 * j) (cs (2 + 2 * j) ++ stCells b wl c (wrap64 (ms + 1))) 0 = cs 0 := by rw [upd_other _ _ (show 0 ≠ 2 + 2 * j from by omega), upd_other _ _ (show 0 ≠ 1 + 2 * j from by omega)]
      have HE : Hid _ := And.intro e0 e1
      have HI1 : Hid ((W2.alloc (.cells #[.string (nm fr), .string tn, .iface 3 (.int .i64 q)] 57)).ownsRow B 57 3 (vv 0) (cnt 0) (cs 0)) := by
        have := HS2.out.rows 0 (by omega)
        rw [show rty 0 = 57 from rfl, show rsz 0 = 3 from rfl, e0, e1] at this
        exact this.alloc _
      have hb2 : B ≤ (W2.alloc (.cells #[.string (nm fr), .string tn, .iface 3 (.int .i64 q)] 57)).heap.size := by have := HS2.out.big; simp; omega
      have HNE : Hid (∀ b, (vv 0).ownBlock = some b → b ≠ Bsys) := HS2.out.sysNe (r := 0) (by omega)
      have HNX : Hid (∀ b, (vv 0).ownBlock = some b → b ≠ Bx) := HS2.out.ctxNe (r := 0) (by omega)
      have hls : Bsys < W2.heap.size := HS2.out.sys.lt
      have hlx1 : Bx < W2.heap.size := HS2.out.ctx.lt
      have y9a := farA (O := .cells #[.string (nm fr), .string tn, .iface 3 (.int .i64 q)] 57) y9
      have hx0a := farA (O := .cells #[.string (nm fr), .string tn, .iface 3 (.int .i64 q)] 57) hx0
      clear e0 e1
      go_upto_region 6 with fail
      go_region_law (refine step_append_lies _ rfl (.tmp 69) (.tmp 71) 40 rfl B 57 i0 _ 3 48 Tryf.underlying40 hi0 hz0 hz1 hz2 rfl (by decide) (vv 0) (cnt 0) (cs 0) (by simp [Act.eval, Act.put]) (by exact HI1.out) ⟨W2.heap.size, 0, none⟩ 1 1 (msgCells (nm fr) tn q) (by simp [Act.eval, Act.put]) rfl (by exact HNW.out) HONE.out (by omega) (by unfold maxLen; omega) (by omega) (by exact hb2) _ rfl ?_; intro g cap w1 hown hgrow hat hlt; have hr2 := (grown_row HX.out HS2.out.ctx HNX.out hgrow).cell (i := 0) (by omega); have hx0b : w1.cell? ⟨Bx, 0, none⟩ = some (.pointer (some ⟨Bsys, 0, none⟩)) := hr2; have hr1 := grown_row HX.out HS2.out.sys HNE.out hgrow; have t3 := hr1.cell (i := 9) (by omega); have t4 := hr1.frozen 9)
      all_goals
        have HEND : Hid (SendPostT B w0 w tg N Bx Bsys Bmap fr nodes nb nm idx Bt Bc K cK st ms wl WZ cnt cs j (msgCells (nm fr) tn q) (.returned (.tuple #[])) (w1.setCell ⟨Bsys, 9, none⟩ (.slice (some ⟨g, 0, none⟩) (cnt 0 + 1) cap))) :=
          sendT_end HL2.out.1 HL2.out.2.1 HL2.out.2.2 HS2.out HX.out hgrow HE.out.1 HE.out.2 hown hat (Nat.le_refl _)
        clear hown hgrow hat hr1 hr2
        go_wp2_with fail
        exact bodyPost_end (v := .tuple #[]) (by simp [results, Tryf.results29, go_sem]) rfl HEND.out
end Go.Proofs.Qxb6608660aFmt

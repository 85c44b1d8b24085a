/- My own work on the program: the system as the laws build it. -/
import Derived.Test.Qxb6608660aFmtW22
namespace Go.Proofs.Qxb6608660aFmt
open Go.RowKit
set_option linter.unusedSimpArgs false
set_option linter.unusedVariables false

theorem sys_start {W0 w1 w2 : World} {tg : Nat → Nat × Nat} {Bn Bm N : Nat} {S : Nat → ByteArray} {nb : Nat → Nat} {val : Nat → Value} {cnt : Nat → Nat} {cs : Nat → List Value} {f : Nat → Value} (hN : NodesIn W0 w1 tg Bn Bm N S N nb val cnt cs f) (hb : Below w1.heap.size w1 w2)
    {sv : Value} {n0 : Nat} {x0 : List Value} (hs : w2.ownsRow w1.heap.size 57 3 sv n0 x0) {fr : Nat} (hfr : fr < N) {Bt : Nat} (h1 : w1.heap.size ≤ Bt) (h2 : Bt ≠ w2.heap.size) (h3 : Bt ≠ w2.heap.size + 1) (h4 : sv.ownBlock ≠ some Bt) (tp : Option Addr) :
    ∃ tg' : Nat → Nat × Nat, (∀ b, b < w1.heap.size → tg' b = tg b) ∧ tg' Bt = (3, 0) ∧ (∀ b, w1.heap.size ≤ b → b < w2.heap.size → b ≠ Bt → sv.ownBlock ≠ some b → tg' b = (4, 0)) ∧
      SysIn W0.heap.size W0 ((w2.alloc (.cells (sysCells (.slice (some ⟨Bn, 0, none⟩) N N) (.map (some Bm)) (.pointer tp) sv) 93)).alloc (.cells #[.pointer (some ⟨w2.heap.size, 0, none⟩), .pointer (some ⟨nb fr, 0, none⟩)] 81)) tg' N (w2.heap.size + 1) w2.heap.size Bm fr (.slice (some ⟨Bn, 0, none⟩) N N) nb S (lastN S N) tp (upd val 0 sv) (upd cnt 0 n0) (upd cs 0 x0) := by
  obtain ⟨tg', htg⟩ : ∃ tg' : Nat → Nat × Nat, tg' = fun b => if b < w1.heap.size then tg b else if b = Bt then (3, 0) else if sv.ownBlock = some b then (6, 0) else if b = w2.heap.size then (1, 0) else if b = w2.heap.size + 1 then (0, 0) else (4, 0) := ⟨_, rfl⟩
  have hsl : ∀ g, sv.ownBlock = some g → w1.heap.size ≤ g ∧ g < w2.heap.size := fun g e => hs.lt g e
  have hsz := hb.size
  have t1 : ∀ b, b < w1.heap.size → tg' b = tg b := fun b h => by rw [htg]; exact if_pos h
  have t2 : tg' Bt = (3, 0) := by rw [htg]; simp only [if_neg (show ¬ Bt < w1.heap.size from by omega), if_true]
  have t3 : ∀ b, w1.heap.size ≤ b → b < w2.heap.size → b ≠ Bt → sv.ownBlock ≠ some b → tg' b = (4, 0) := fun b a1 a2 a3 a4 => by
    rw [htg]
    simp only [if_neg (show ¬ b < w1.heap.size from by omega), if_neg a3, if_neg a4, if_neg (show ¬ b = w2.heap.size from by omega), if_neg (show ¬ b = w2.heap.size + 1 from by omega)]
  have t4 : ∀ g, sv.ownBlock = some g → tg' g = (6, 0) := fun g e => by
    have := hsl g e
    rw [htg]
    simp only [if_neg (show ¬ g < w1.heap.size from by omega), if_neg (show ¬ g = Bt from fun e' => h4 (e' ▸ e)), e, if_true]
  have t5 : tg' w2.heap.size = (1, 0) := by
    rw [htg]
    simp only [if_neg (show ¬ w2.heap.size < w1.heap.size from by omega), if_neg (show ¬ w2.heap.size = Bt from fun e => h2 e.symm), if_neg (show ¬ sv.ownBlock = some w2.heap.size from fun e => by have := hsl _ e; omega), if_true]
  have t6 : tg' (w2.heap.size + 1) = (0, 0) := by
    rw [htg]
    simp only [if_neg (show ¬ w2.heap.size + 1 < w1.heap.size from by omega), if_neg (show ¬ w2.heap.size + 1 = Bt from fun e => h3 e.symm), if_neg (show ¬ sv.ownBlock = some (w2.heap.size + 1) from fun e => by have := hsl _ e; omega), if_neg (show ¬ w2.heap.size + 1 = w2.heap.size from by omega), if_true]
  have hal : Below w2.heap.size w2 ((w2.alloc (.cells (sysCells (.slice (some ⟨Bn, 0, none⟩) N N) (.map (some Bm)) (.pointer tp) sv) 93)).alloc (.cells #[.pointer (some ⟨w2.heap.size, 0, none⟩), .pointer (some ⟨nb fr, 0, none⟩)] 81)) := ((Below.refl _ _).alloc (Nat.le_refl _) _).alloc (by simp) _
  have h14 := hb.trans (hal.mono hsz)
  have hrow : ∀ r, r < 1 + 2 * N → ((w2.alloc (.cells (sysCells (.slice (some ⟨Bn, 0, none⟩) N N) (.map (some Bm)) (.pointer tp) sv) 93)).alloc (.cells #[.pointer (some ⟨w2.heap.size, 0, none⟩), .pointer (some ⟨nb fr, 0, none⟩)] 81)).ownsRow W0.heap.size (rty r) (rsz r) (upd val 0 sv r) (upd cnt 0 n0 r) (upd cs 0 x0 r) := fun r hr => by
    by_cases e : r = 0
    · subst e
      rw [upd_same, upd_same, upd_same]
      exact own_mono (own_later hs hal) hN.bel.size
    · rw [upd_other _ _ e, upd_other _ _ e, upd_other _ _ e]
      exact own_later (hN.rows r (by omega) hr) h14
  refine ⟨tg', t1, t2, t3, ⟨hfr, ?_, ?_, fun j hj => ?_, ?_, fun t j h => lastN_lt h, hrow, t6, t5, ?_, fun j hj => ?_, fun r hr g e => ?_, fun b hb' => ?_, ?_, ?_⟩⟩
  · have := rowIs_lit (w2.alloc (.cells (sysCells (.slice (some ⟨Bn, 0, none⟩) N N) (.map (some Bm)) (.pointer tp) sv) 93)) #[.pointer (some ⟨w2.heap.size, 0, none⟩), .pointer (some ⟨nb fr, 0, none⟩)] 81
    rw [show (w2.alloc (.cells (sysCells (.slice (some ⟨Bn, 0, none⟩) N N) (.map (some Bm)) (.pointer tp) sv) 93)).heap.size = w2.heap.size + 1 from by simp] at this
    refine this.congr (fun i hi => ?_)
    rcases i with _ | _ | i
    · rfl
    · rfl
    · simp at hi
      omega
  · rw [upd_same]
    refine World.rowIs.alloc (World.rowIs_alloc w2 _ 93 _ (fun i hi => ?_)) _
    unfold sysF; simp [hi]
  · rw [upd_other _ _ (by omega), upd_other _ _ (by omega)]
    exact (hN.node j hj).of_block (h14.block _ (hN.node j hj).lt)
  · exact ⟨N, hN.map.of_block (h14.block _ hN.map.lt)⟩
  · rw [t1 _ hN.map.lt, hN.gm]
  · rw [t1 _ (hN.node j hj).lt, hN.gn j hj]
  · by_cases e' : r = 0
    · subst e'
      rw [upd_same] at e
      exact t4 g e
    · rw [upd_other _ _ e'] at e
      rw [t1 _ ((hN.rows r (by omega) hr).lt g e).2, hN.gr r (by omega) hr g e]
  · rw [t1 b (Nat.lt_of_lt_of_le hb' hN.bel.size), hN.low b hb']
  · exact Nat.le_trans hN.bel.size h14.size
  · exact hN.bel.trans (h14.mono hN.bel.size)

/-- The tracer as it starts. -/
theorem tr_start {w1 w2 w4 : World} {tg : Nat → Nat × Nat} {Bt Bc K fr : Nat} {sa' : Option Addr} {sl sc' : Nat} {ms : Int} {A' : Nat → Option Addr} {L C' : Nat → Nat} {Z : Nat → Nat → Int} {SZ : Nat → Int} {wl : Nat} {WZ : Nat → Int} (h24 : Below w2.heap.size w2 w4)
    (hrow : w2.rowIs Bt 113 8 (trF (.slice (some ⟨Bc, 0, none⟩) K K) (.slice sa' sl sc') 0 ms)) (hBc : w1.heap.size ≤ Bc) (hct : Bc < Bt) (hcl : ∀ j, j < K → w2.cell? ⟨Bc, j, none⟩ = some (.slice (A' j) (L j) (C' j)) ∧ IntsIn w1.heap.size Bt w2 (A' j) (L j) (Z j) ∧ (A' j = none → L j = 0)) (hsz : IntsIn w1.heap.size Bt w2 sa' sl SZ)
    (hfr : fr < K) (hK : K ≤ 1048576) (hwl : wl ≤ 1048576) (gt : tg Bt = (3, 0)) (g4 : ∀ b, w1.heap.size ≤ b → b < Bt → tg b = (4, 0)) (hs : sa' ≠ none → sl = wl ∧ SZ = WZ) (hn : sa' = none → L fr = wl ∧ Z fr = WZ) :
    TrIn w4 tg Bt Bc K K fr sa' sl sc' 0 ms wl WZ := by
  have hlt := hrow.lt
  have hci : ∀ {a : Option Addr} {n : Nat} {Z : Nat → Int}, IntsIn w1.heap.size Bt w2 a n Z → CInts w4 tg a n Z := fun h i hi => by
    obtain ⟨x, o, e, hx, hxb, hc⟩ := h i hi
    exact ⟨x, o, e, (h24.cell (p := ⟨x, o + i, none⟩) (show x < w2.heap.size from by omega)).trans hc, g4 x hx hxb⟩
  refine ⟨hrow.of_block (h24.block _ hlt), gt, g4 Bc hBc hct, Nat.lt_of_lt_of_le (Nat.lt_trans hct hlt) h24.size, hfr, hK, hwl, fun e => ?_, fun e => ?_⟩
  · obtain ⟨rfl, rfl⟩ := hs e
    exact ⟨rfl, hci hsz⟩
  · obtain ⟨rfl, rfl⟩ := hn e
    obtain ⟨h1, h2, h3⟩ := hcl fr hfr
    exact ⟨A' fr, C' fr, (h24.cell (p := ⟨Bc, fr, none⟩) (show Bc < w2.heap.size from by omega)).trans h1, hci h2, h3⟩

/-- A map's number. -/
def intR : Value → Option (DataW Unit × List MemPlace)
  | .int .i64 z => some (.lit (.int .i64 z), [])
  | _ => none
theorem intR_inv {v : Value} {d : Nat} {ps : List MemPlace} (h : intR v = some (.lit (.int .i64 d), ps)) : v = .int .i64 d := by
  unfold intR at h
  split at h
  · simp at h; rw [h.1]
  · simp at h
theorem zero3 (w : World) : (zeroValue 3).run Tryf.prog w = .ok (.int .i64 0) w := by kernel_rfl
theorem lastN_step (S : Nat → ByteArray) (k : Nat) : (fun x => if x = S k then some k else lastN S k x) = lastN S (k + 1) := by
  funext t
  rw [lastN]
end Go.Proofs.Qxb6608660aFmt

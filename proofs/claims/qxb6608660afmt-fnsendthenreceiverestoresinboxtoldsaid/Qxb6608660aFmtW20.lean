/- My own work on the program: buildNodes walked (by tools/mk20b.py). -/
import Derived.Test.Qxb6608660aFmtW19
import Derived.BigRegion
namespace Go.Proofs.Qxb6608660aFmt
open Go.RowKit
set_option linter.unusedSimpArgs false
set_option linter.unusedVariables false

theorem Tryf.info44 : (Tryf.prog.info? 44).map (fun i => (i.zero, i.size, i.bytes)) = some (some (.pointer none), 1, 8) := by kernel_rfl
theorem nodeRow (w : World) (nm : ByteArray) (ix : Int) (iv sv : Value) : (w.alloc (.cells (nodeCells nm ix iv sv) 103)).rowIs w.heap.size 103 8 (nodeF nm ix iv sv) :=
  World.rowIs_alloc w (nodeCells nm ix iv sv) 103 _ (fun i hi => by unfold nodeF; simp [hi])
theorem own_mono {w : World} {base base' : Nat} {e : TypeId} {s : Nat} {v : Value} {n : Nat} {xs : List Value} (h : w.ownsRow base e s v n xs) (hb : base' ≤ base) : w.ownsRow base' e s v n xs := by
  refine ⟨h.1, ?_⟩
  rcases h.2 with h2 | ⟨g, cap, cur, e1, e2, e3⟩
  · exact .inl h2
  · exact .inr ⟨g, cap, cur, e1, Nat.le_trans hb e2, e3⟩
/-- Numbers that stand still are left by a change of the nodes' row, of the map and of new blocks. -/
theorem cints_only {w wr w' : World} {tg tg' : Nat → Nat × Nat} {Bn Bm N : Nat} {S : Nat → ByteArray} {k : Nat} {nb : Nat → Nat} {val : Nat → Value} {cnt : Nat → Nat} {cs : Nat → List Value} {f : Nat → Value} {a : Option Addr} {n : Nat} {Z : Nat → Int}
    (hN : NodesIn w wr tg Bn Bm N S k nb val cnt cs f) (h : CInts wr tg a n Z) (ho : Only (fun b => b = Bn ∨ b = Bm) wr w') (ht : ∀ b, b < wr.heap.size → tg' b = tg b) : CInts w' tg' a n Z := fun i hi => by
  obtain ⟨x, o, e, h1, h2⟩ := h i hi
  have hx : x < wr.heap.size := World.block_lt_of_cell? wr _ h1
  refine ⟨x, o, e, (World.cell?_of_block (a := ⟨x, o + i, none⟩) (ho.block x hx (fun e => ?_))).trans h1, (ht x hx).trans h2⟩
  rcases e with rfl | rfl
  · rw [hN.gb] at h2; cases h2
  · rw [hN.gm] at h2; cases h2
theorem nodes_start (w : World) (N : Nat) (S : Nat → ByteArray) :
    ∃ tg f, NodesIn w ((w.alloc (.cells (madeCells #[.pointer none] N) 44)).alloc (.map #[] 0)) tg w.heap.size (w.heap.size + 1) N S 0 (fun _ => 0) (fun _ => .slice none 0 0) (fun _ => 0) (fun _ => []) f := by
  obtain ⟨f, hf⟩ := rowIs_madeMany w #[.pointer none] N 44
  have hsz : (w.alloc (.cells (madeCells #[.pointer none] N) 44)).heap.size = w.heap.size + 1 := by simp
  have hm := MapIs.made (w.alloc (.cells (madeCells #[.pointer none] N) 44)) ptrR
  rw [hsz] at hm
  refine ⟨fun b => if b < w.heap.size then (7, 0) else if b = w.heap.size then (4, 1) else (2, 0), f, hf.alloc _, fun j hj => absurd hj (by omega), hm, fun j hj => absurd hj (by omega), fun r h0 hr => absurd hr (by omega), ?_, ?_, fun j hj => absurd hj (by omega), fun r h0 hr => absurd hr (by omega), fun b hb => if_pos hb, ((Below.refl _ _).alloc (Nat.le_refl _) _).alloc (by rw [hsz]; omega) _⟩
  · simp
  · simp

/-- What buildNodes hands back. -/
def BuildPost (w : World) (N : Nat) (S : Nat → ByteArray) (r : Int) (np : Nat) (F T : Nat → ByteArray) (Q : Nat → Int) (ns : Nat) (L : Nat → Nat) (Z : Nat → Nat → Int) (Nn : Nat → Int) (e : Ending) (w' : World) : Prop :=
  ∃ tg Bn Bm nb val cnt cs f, e = .returned (.tuple #[.slice (some ⟨Bn, 0, none⟩) N N, .map (some Bm)]) ∧ NodesIn w w' tg Bn Bm N S N nb val cnt cs f ∧ Prior w' tg r N cnt cs np F T Q ns L Z Nn

set_option maxRecDepth 100000 in
set_option maxHeartbeats 2000000 in
theorem buildNodes_any (a : Option Addr) (N c : Nat) (S : Nat → ByteArray) (r : Int) (a1 : Option Addr) (np c1 : Nat) (F T : Nat → ByteArray) (Q : Nat → Int) (a2 : Option Addr) (ns c2 : Nat) (A : Nat → Option Addr) (L C : Nat → Nat) (Z : Nat → Nat → Int) (Nn : Nat → Int) (w : World)
    (hN : N ≤ 4096) (hS : StrsAt w a N S) (hnp : np ≤ 1048576) (z1 : a1 = none → np = 0) (hM : MsgsAt w a1 np F T Q) (hns : ns ≤ 1048576) (z2 : a2 = none → ns = 0) (hL : ∀ i, i < ns → L i ≤ 1048576) (hT : StampsAt w a2 ns A L C Z Nn) :
    Calls Tryf.prog 10 #[.slice a N c, .int .i64 r, .slice a1 np c1, .slice a2 ns c2] w (BuildPost w N S r np F T Q ns L Z Nn) := by
  have HS : Hid (StrsAt w a N S) := hS
  have HMS : Hid (MsgsAt w a1 np F T Q ∧ (a1 = none → np = 0)) := ⟨hM, z1⟩
  have HST : Hid (StampsAt w a2 ns A L C Z Nn ∧ (a2 = none → ns = 0) ∧ ∀ i, i < ns → L i ≤ 1048576) := ⟨hT, z2, hL⟩
  clear hS hM z1 hT z2 hL
  have hmk := run_make_rows (P := Tryf.prog) 32 44 _ 1 8 Tryf.underlying32 Tryf.info44 .i64 .i64 N (by omega) (by omega) w
  have hmm := run_makeMap_hint 33 44 Tryf.underlying33 N
  go_enter Tryf.func10, Tryf.ntmps10
  go_wp2_with fail
  clear hmk hmm
  obtain ⟨Bn, hBn⟩ : ∃ Bn, Bn = w.heap.size := ⟨_, rfl⟩
  obtain ⟨Bm, hBm⟩ : ∃ Bm, Bm = w.heap.size + 1 := ⟨_, rfl⟩
  have HST0 : Hid (∃ tg f, NodesIn w ((w.alloc (.cells (madeCells #[.pointer none] N) 44)).alloc (.map #[] 0)) tg Bn Bm N S 0 (fun _ => 0) (fun _ => .slice none 0 0) (fun _ => 0) (fun _ => []) f) := by
    rw [hBn, hBm]; exact nodes_start w N S
  rw [← hBm, ← hBn]
  clear hBn hBm
  go_loopw [12, 13, 14] (fun i _ _ wr => ∃ (k : Nat) (tg : Nat → Nat × Nat) (nb : Nat → Nat) (val : Nat → Value) (cnt : Nat → Nat) (cs : Nat → List Value) (f : Nat → Value), k ≤ N ∧ i = .int .i64 k ∧ NodesIn w wr tg Bn Bm N S k nb val cnt cs f ∧ Prior wr tg r k cnt cs np F T Q ns L Z Nn) (fun i _ _ _ => N - (intOf i).toNat)
  case atStart =>
    obtain ⟨tg, f, h⟩ := HST0.out
    exact ⟨0, tg, _, _, _, _, f, Nat.zero_le _, rfl, h, fun j hj => absurd hj (by omega)⟩
  case round =>
    obtain ⟨k, tg, nb, val, cnt, cs, f, hk, rfl, hn, hp⟩ := hrel
    clear HST0
    have HN : Hid (NodesIn w wr tg Bn Bm N S k nb val cnt cs f) := hn
    have HP : Hid (Prior wr tg r k cnt cs np F T Q ns L Z Nn) := hp
    clear hn hp
    by_cases hlt : k < N
    · obtain ⟨x, o, rfl, sr, hsk⟩ := HS.out.below HN.out.bel (Nat.le_refl _) k hlt
      have hxl : x < wr.heap.size := World.block_lt_of_cell? wr _ sr
      have hxw : x < w.heap.size := by
        obtain ⟨x', o', e, g, _⟩ := HS.out k hlt
        have := World.block_lt_of_cell? w _ g
        simp at e this
        omega
      have hxBn : x ≠ Bn := fun e => by have := HN.out.low x hxw; rw [e, HN.out.gb] at this; cases this
      by_cases hkr : (k : Int) = r
      · have hdk : ((k : Int) == r) = true := by simp [hkr]
        have HKR : Hid ((k : Int) = r) := hkr
        clear hkr
        have HWR : Hid (w.heap.size ≤ wr.heap.size) := HN.out.bel.size
        have hcm := toMessages_all a1 np c1 F T Q wr hnp HMS.out.2 (HMS.out.1.below HN.out.bel (Nat.le_refl _))
        go_upto_region 10 with (go_at_call 13; refine hcm.mono ?_; rintro e w1 hpost; (obtain ⟨b1, rfl, hb1, hi1⟩ := hpost.own (by unfold maxLen; omega)); (have HB1 : Hid (Below wr.heap.size wr w1) := hb1); (have HI1 : Hid (w1.ownsRow wr.heap.size 57 3 (.slice b1 np np) np (mList np F T Q)) := hi1); clear hb1 hi1 hpost)
        clear hcm
        have hct := toStamps_all a2 ns c2 A L C Z Nn w1 hns HST.out.2.1 HST.out.2.2 (HST.out.1.below (HN.out.bel.trans (HB1.out.mono HWR.out)) (Nat.le_refl _))
        go_upto_region 11 with (go_at_call 24; refine hct.mono ?_; rintro e w2 hpost; (obtain ⟨b2, As, Cs, rfl, hb2, hi2, hz2⟩ := hpost.own (by unfold maxLen; omega)); (have HB2 : Hid (Below w1.heap.size w1 w2) := hb2); (have HI2 : Hid (w2.ownsRow w1.heap.size 52 2 (.slice b2 ns ns) ns (sList ns As L Cs Nn)) := hi2); (have HZ : Hid (∀ j, j < ns → ∃ g, (Value.slice b2 ns ns).ownBlock = some g ∧ IntsFrom (g + 1) w2 (As j) (L j) (Z j)) := hz2); clear hb2 hi2 hz2 hpost)
        clear hct
        have HA : Hid (Below wr.heap.size wr w2) := HB1.out.trans (HB2.out.mono HB1.out.size)
        have sA : w2.cell? ⟨x, o + k, none⟩ = some (.string (S k)) := (HA.out.cell (p := ⟨x, o + k, none⟩) hxl).trans sr
        have HNE1 : Hid (∀ g, (Value.slice b1 np np).ownBlock = some g → ¬ (g = Bn ∨ g = Bm)) := fun g e e' => by
          have := (HI1.out.lt g e).1; have := HN.out.row.lt; have := HN.out.map.lt; rcases e' with rfl | rfl <;> omega
        have HNE2 : Hid (∀ g, (Value.slice b2 ns ns).ownBlock = some g → ¬ (g = Bn ∨ g = Bm)) := fun g e e' => by
          have := (HI2.out.lt g e).1; have := HB1.out.size; have := HN.out.row.lt; have := HN.out.map.lt; rcases e' with rfl | rfl <;> omega
        have HG1 : Hid (∀ g, (Value.slice b1 np np).ownBlock = some g → wr.heap.size ≤ g ∧ g ≠ w2.heap.size) := fun g e => by
          have h1 := HI1.out.lt g e; have := HB2.out.size; exact ⟨h1.1, by omega⟩
        have HG2 : Hid (∀ g, (Value.slice b2 ns ns).ownBlock = some g → wr.heap.size ≤ g ∧ g ≠ w2.heap.size ∧ (Value.slice b1 np np).ownBlock ≠ some g) := fun g e => by
          have := HI2.out.lt g e; have := HB1.out.size; exact ⟨by omega, by omega, fun e' => by have := HI1.out.lt g e'; omega⟩
        obtain ⟨W5, hW5⟩ : ∃ W5, ((w2.alloc (.cells (nodeCells (S k) k (.slice b1 np np) (.slice b2 ns ns)) 103)).setCell ⟨Bn, k, none⟩ (.pointer (some ⟨w2.heap.size, 0, none⟩))) = W5 := ⟨_, rfl⟩
        have hBnA : Bn < w2.heap.size := Nat.lt_of_lt_of_le HN.out.row.lt HA.out.size
        have hrA := HN.out.row.of_block (HA.out.block _ HN.out.row.lt)
        have HO5 : Hid (Only (fun b => b = Bn ∨ b = Bm) wr W5) := by rw [← hW5]; exact (((Only.ofBelow HA.out).alloc _).setCell (x := ⟨Bn, k, none⟩) (.inl rfl) _)
        have HR5 : Hid (W5.rowIs Bn 44 N (fun i => if i = k then .pointer (some ⟨w2.heap.size, 0, none⟩) else f i)) := by rw [← hW5]; exact (hrA.alloc _).set k _
        have HND5 : Hid (W5.rowIs w2.heap.size 103 8 (nodeF (S k) k (.slice b1 np np) (.slice b2 ns ns))) := by
          rw [← hW5]
          exact (nodeRow w2 (S k) k (.slice b1 np np) (.slice b2 ns ns)).setOther (a := ⟨Bn, k, none⟩) (show w2.heap.size ≠ Bn from by omega) _
        have hBm : Bm ≠ Bn := fun e => by have := HN.out.gm; rw [e, HN.out.gb] at this; cases this
        have hm5 : MapIs W5.drew ptrR Bm k (fun t => (lastN S k t).map nb) := HN.out.map.of_block (by
          show W5.heap[Bm]? = _
          rw [← hW5, Deep.blk_setCell_other _ _ _ _ hBm, Below.heap_alloc _ _ _ (Nat.lt_of_lt_of_le HN.out.map.lt HA.out.size), HA.out.block _ HN.out.map.lt])
        obtain ⟨w6, hup0, hm6, hg6⟩ := hm5.update Tryf.underlying33 (by unfold maxLen; omega) hsk (ptrR_mk w2.heap.size)
        have hup : (Instr.mapUpdate 33 (.map (some Bm)) (.string (S k)) (.pointer (some ⟨w2.heap.size, 0, none⟩))).run Tryf.prog W5.drew = .ok () w6 := hup0
        have s5 : W5.cell? ⟨x, o + k, none⟩ = some (.string (S k)) := by rw [← hW5]; exact far0 hxBn (farA sA)
        have n5 : W5.cell? ⟨Bn, k, none⟩ = some (.pointer (some ⟨w2.heap.size, 0, none⟩)) := (HR5.out.cell hlt).trans (by simp)
        have d0 := (hrA.alloc (.cells (nodeCells (S k) k (.slice b1 np np) (.slice b2 ns ns)) 103)).cell hlt
        have e0 := (hrA.alloc (.cells (nodeCells (S k) k (.slice b1 np np) (.slice b2 ns ns)) 103)).frozen k
        have HO6 : Hid (Only (fun b => b = Bn ∨ b = Bm) wr w6) := HO5.out.trans ⟨hg6.os, hg6.tape, hg6.output, hg6.size, fun b hb hp => hg6.block b hb (fun e => hp (.inr (Option.some.inj e)))⟩
        have HM6 : Hid (MapIs w6 ptrR Bm (k + 1) (fun x => if x = S k then some w2.heap.size else (lastN S k x).map nb)) := hm6
        have HG6 : Hid (W5.drew.grownBy w6 (some Bm)) := hg6
        have HR6 : Hid (w6.rowIs Bn 44 N (fun i => if i = k then .pointer (some ⟨w2.heap.size, 0, none⟩) else f i)) := HR5.out.of_block (hg6.block _ HR5.out.lt (fun e => hBm (Option.some.inj e).symm))
        have hBm2 : Bm < w2.heap.size := Nat.lt_of_lt_of_le HN.out.map.lt HA.out.size
        have HND6 : Hid (w6.rowIs w2.heap.size 103 8 (nodeF (S k) k (.slice b1 np np) (.slice b2 ns ns))) := HND5.out.of_block (hg6.block _ HND5.out.lt (fun e => by have := Option.some.inj e; omega))
        have HA6 : Hid (Only (fun b => b = Bn ∨ b = Bm) w2 w6) := by
          have h1 : Only (fun b => b = Bn ∨ b = Bm) w2 W5 := by rw [← hW5]; exact (((Only.refl _ w2).alloc _).setCell (x := ⟨Bn, k, none⟩) (.inl rfl) _)
          exact h1.trans ⟨hg6.os, hg6.tape, hg6.output, hg6.size, fun b hb hp => hg6.block b hb (fun e => hp (.inr (Option.some.inj e)))⟩
        clear hup0 hm5 hm6 hg6 hrA hBm
        go_upto_region 12 with (go_at_call 25; refine (newNode_any _ _ _ _ _ _ _ _ _).mono ?_; rintro e w' ⟨rfl, rfl⟩)
        try rw [hW5]
        clear hW5
        go_region
        all_goals
          go_wp2_with fail
          go_roundw
          case rel =>
            have o1 := own_only (own_later HI1.out HB2.out) HA6.out HNE1.out
            have o2 := own_only HI2.out HA6.out HNE2.out
            obtain ⟨tg', f', t1, t2, hN⟩ := HN.out.step HO6.out HR6.out HM6.out HA.out.size HND6.out (own_mono o1 HWR.out) (own_mono o2 (Nat.le_trans HWR.out HB1.out.size)) HG1.out HG2.out
            refine ⟨k + 1, tg', _, _, _, _, f', by omega, by go_num, hN, HP.out.step (fun a n Z h => cints_only HN.out h HO6.out t1) (fun _ => ⟨rfl, rfl, rfl, As, Cs, rfl, fun i hi => ?_⟩) (fun e => absurd HKR.out e)⟩
            obtain ⟨g, hg, hz⟩ := HZ.out i hi
            intro p hp
            obtain ⟨x, o, e1, hx, hc⟩ := hz p hp
            have hxl : x < w2.heap.size := World.block_lt_of_cell? w2 _ hc
            have hg2 := HG2.out g hg
            have hgw := HI2.out.lt g hg
            refine ⟨x, o, e1, (World.cell?_of_block (a := ⟨x, o + p, none⟩) (HA6.out.block x hxl (fun e => ?_))).trans hc, t2 x (by omega) (by omega) (fun e => ?_) (fun e => ?_)⟩
            · have := HN.out.row.lt; have := HN.out.map.lt; rcases e with rfl | rfl <;> omega
            · have := (HI1.out.lt x e).2; omega
            · rw [hg] at e; have := Option.some.inj e; omega
          case measure => simp [intOf]; omega
      · have hdk : ((k : Int) == r) = false := by simp [hkr]
        have HA : Hid (Below wr.heap.size wr wr) := Below.refl _ _
        have sA := sr
        obtain ⟨W5, hW5⟩ : ∃ W5, ((wr.alloc (.cells (nodeCells (S k) k (.slice none 0 0) (.slice none 0 0)) 103)).setCell ⟨Bn, k, none⟩ (.pointer (some ⟨wr.heap.size, 0, none⟩))) = W5 := ⟨_, rfl⟩
        have hBnA : Bn < wr.heap.size := Nat.lt_of_lt_of_le HN.out.row.lt HA.out.size
        have hrA := HN.out.row.of_block (HA.out.block _ HN.out.row.lt)
        have HO5 : Hid (Only (fun b => b = Bn ∨ b = Bm) wr W5) := by rw [← hW5]; exact (((Only.ofBelow HA.out).alloc _).setCell (x := ⟨Bn, k, none⟩) (.inl rfl) _)
        have HR5 : Hid (W5.rowIs Bn 44 N (fun i => if i = k then .pointer (some ⟨wr.heap.size, 0, none⟩) else f i)) := by rw [← hW5]; exact (hrA.alloc _).set k _
        have HND5 : Hid (W5.rowIs wr.heap.size 103 8 (nodeF (S k) k (.slice none 0 0) (.slice none 0 0))) := by
          rw [← hW5]
          exact (nodeRow wr (S k) k (.slice none 0 0) (.slice none 0 0)).setOther (a := ⟨Bn, k, none⟩) (show wr.heap.size ≠ Bn from by omega) _
        have hBm : Bm ≠ Bn := fun e => by have := HN.out.gm; rw [e, HN.out.gb] at this; cases this
        have hm5 : MapIs W5.drew ptrR Bm k (fun t => (lastN S k t).map nb) := HN.out.map.of_block (by
          show W5.heap[Bm]? = _
          rw [← hW5, Deep.blk_setCell_other _ _ _ _ hBm, Below.heap_alloc _ _ _ (Nat.lt_of_lt_of_le HN.out.map.lt HA.out.size), HA.out.block _ HN.out.map.lt])
        obtain ⟨w6, hup0, hm6, hg6⟩ := hm5.update Tryf.underlying33 (by unfold maxLen; omega) hsk (ptrR_mk wr.heap.size)
        have hup : (Instr.mapUpdate 33 (.map (some Bm)) (.string (S k)) (.pointer (some ⟨wr.heap.size, 0, none⟩))).run Tryf.prog W5.drew = .ok () w6 := hup0
        have s5 : W5.cell? ⟨x, o + k, none⟩ = some (.string (S k)) := by rw [← hW5]; exact far0 hxBn (farA sA)
        have n5 : W5.cell? ⟨Bn, k, none⟩ = some (.pointer (some ⟨wr.heap.size, 0, none⟩)) := (HR5.out.cell hlt).trans (by simp)
        have d0 := (hrA.alloc (.cells (nodeCells (S k) k (.slice none 0 0) (.slice none 0 0)) 103)).cell hlt
        have e0 := (hrA.alloc (.cells (nodeCells (S k) k (.slice none 0 0) (.slice none 0 0)) 103)).frozen k
        have HO6 : Hid (Only (fun b => b = Bn ∨ b = Bm) wr w6) := HO5.out.trans ⟨hg6.os, hg6.tape, hg6.output, hg6.size, fun b hb hp => hg6.block b hb (fun e => hp (.inr (Option.some.inj e)))⟩
        have HM6 : Hid (MapIs w6 ptrR Bm (k + 1) (fun x => if x = S k then some wr.heap.size else (lastN S k x).map nb)) := hm6
        have HG6 : Hid (W5.drew.grownBy w6 (some Bm)) := hg6
        have HR6 : Hid (w6.rowIs Bn 44 N (fun i => if i = k then .pointer (some ⟨wr.heap.size, 0, none⟩) else f i)) := HR5.out.of_block (hg6.block _ HR5.out.lt (fun e => hBm (Option.some.inj e).symm))
        have hBm2 : Bm < wr.heap.size := Nat.lt_of_lt_of_le HN.out.map.lt HA.out.size
        have HND6 : Hid (w6.rowIs wr.heap.size 103 8 (nodeF (S k) k (.slice none 0 0) (.slice none 0 0))) := HND5.out.of_block (hg6.block _ HND5.out.lt (fun e => by have := Option.some.inj e; omega))
        have HA6 : Hid (Only (fun b => b = Bn ∨ b = Bm) wr w6) := by
          have h1 : Only (fun b => b = Bn ∨ b = Bm) wr W5 := by rw [← hW5]; exact (((Only.refl _ wr).alloc _).setCell (x := ⟨Bn, k, none⟩) (.inl rfl) _)
          exact h1.trans ⟨hg6.os, hg6.tape, hg6.output, hg6.size, fun b hb hp => hg6.block b hb (fun e => hp (.inr (Option.some.inj e)))⟩
        clear hup0 hm5 hm6 hg6 hrA hBm
        go_upto_region 12 with (go_at_call 25; refine (newNode_any _ _ _ _ _ _ _ _ _).mono ?_; rintro e w' ⟨rfl, rfl⟩)
        try rw [hW5]
        clear hW5
        go_region
        all_goals
          go_wp2_with fail
          go_roundw
          case rel =>
            obtain ⟨tg', f', t1, t2, hN⟩ := HN.out.step (n1 := 0) (n2 := 0) (x1 := []) (x2 := []) HO6.out HR6.out HM6.out HA.out.size HND6.out (World.ownsRow_nil _ _ _ _) (World.ownsRow_nil _ _ _ _) (fun g e => by cases e) (fun g e => by cases e)
            refine ⟨k + 1, tg', _, _, _, _, f', by omega, by go_num, hN, HP.out.step (fun a n Z h => cints_only HN.out h HO6.out t1) (fun e => absurd e hkr) (fun _ => ⟨rfl, rfl, rfl, rfl⟩)⟩
          case measure => simp [intOf]; omega
    · obtain rfl : N = k := by omega
      go_wp2_with fail
      exact bodyPost_ret (v := .tuple #[.slice (some ⟨Bn, 0, none⟩) N N, .map (some Bm)]) (by simp [results, Tryf.results10, go_sem]) rfl ⟨tg, Bn, Bm, nb, val, cnt, cs, f, rfl, HN.out, HP.out⟩
end Go.Proofs.Qxb6608660aFmt

import Derived.Test.Qxb6608660aFmtW12
namespace Go.Proofs.Qxb6608660aFmt
open Go.RowKit
set_option linter.unusedSimpArgs false
set_option linter.unusedVariables false

def trF (clocks sentAt : Value) (sent ms : Int) (c : Nat) : Value := (trCells clocks sentAt sent ms).getD c undef
theorem trF_set2 (a b v : Value) (x y : Int) (c : Nat) (hc : c < 8) : (if c = 2 then v else trF a b x y c) = trF a v x y c := by
  unfold trF trCells
  match c, hc with
  | 0, _ => rfl
  | 1, _ => rfl
  | 2, _ => rfl
  | 3, _ => rfl
  | 4, _ => rfl
  | 5, _ => rfl
  | 6, _ => rfl
  | 7, _ => rfl
theorem trF_set4 (a b : Value) (x y z : Int) (c : Nat) (hc : c < 8) : (if c = 4 then .int .i64 z else trF a b x y c) = trF a b z y c := by
  unfold trF trCells
  match c, hc with
  | 0, _ => rfl
  | 1, _ => rfl
  | 2, _ => rfl
  | 3, _ => rfl
  | 4, _ => rfl
  | 5, _ => rfl
  | 6, _ => rfl
  | 7, _ => rfl
theorem trF_set5 (a b : Value) (x y z : Int) (c : Nat) (hc : c < 8) : (if c = 5 then .int .i64 z else trF a b x y c) = trF a b x z c := by
  unfold trF trCells
  match c, hc with
  | 0, _ => rfl
  | 1, _ => rfl
  | 2, _ => rfl
  | 3, _ => rfl
  | 4, _ => rfl
  | 5, _ => rfl
  | 6, _ => rfl
  | 7, _ => rfl

theorem farO {w : World} {b o k : Nat} {u v : Value} (hb : o ≠ k) (hw : w.cell? ⟨b, o, none⟩ = some v) : (w.setCell ⟨b, k, none⟩ u).cell? ⟨b, o, none⟩ = some v := by
  rw [World.cell?_setCell_other _ _ _ _ (fun e => by have := congrArg Addr.off e; simp at this; omega)]; exact hw

theorem IntsFrom.drew {B : Nat} {w : World} {a : Option Addr} {n : Nat} {Z : Nat → Int} (h : IntsFrom B w a n Z) : IntsFrom B w.drew a n Z := h

/-- What the tracer's stamp hands back and leaves. -/
def StampPost (w : World) (Bt : Nat) (ck : Value) (sa : Option Addr) (sl sc : Nat) (st ms : Int) (ca : Option Addr) (cl : Nat) (Z : Nat → Int) (e : Ending) (w' : World) : Prop :=
  ∃ b l c, e = .returned (.agg #[.slice b l c, .int .i64 (wrap64 (ms + 1))]) ∧ w'.rowIs Bt 113 8 (trF ck (.slice b l c) (wrap64 (st + 1)) (wrap64 (ms + 1))) ∧ Only (· = Bt) w w' ∧
    (sa ≠ none → b = sa ∧ l = sl ∧ c = sc) ∧ (sa = none → l = cl ∧ (b = none ↔ ca = none) ∧ IntsFrom w.heap.size w' b l Z)

set_option maxRecDepth 100000 in
set_option maxHeartbeats 1000000 in
theorem stamp_some (w : World) (Bt Bf : Nat) (ck : Value) (sa : Addr) (sl sc : Nat) (st ms : Int) (ca : Option Addr) (cl : Nat) (Z : Nat → Int)
    (hT : w.rowIs Bt 113 8 (trF ck (.slice (some sa) sl sc) st ms)) :
    Calls Tryf.prog 37 #[.pointer (some ⟨Bt, 0, none⟩), .pointer (some ⟨Bf, 0, none⟩)] w (StampPost w Bt ck (some sa) sl sc st ms ca cl Z) := by
  have heq := fun wx => Lib.run_eql_slice_nil (P := Tryf.prog) wx 50 3 (some sa) sl sc 0 0 Tryf.underlying50
  have c2 : w.cell? ⟨Bt, 2, none⟩ = some (.slice (some sa) sl sc) := hT.cell (i := 2) (by omega)
  have c4 : w.cell? ⟨Bt, 4, none⟩ = some (.int .i64 st) := hT.cell (i := 4) (by omega)
  have c5 : w.cell? ⟨Bt, 5, none⟩ = some (.int .i64 ms) := hT.cell (i := 5) (by omega)
  have fT := hT.frozen
  have hl := hT.lt
  have hne : Bt ≠ w.heap.size := by omega
  have HT : Hid (w.rowIs Bt 113 8 (trF ck (.slice (some sa) sl sc) st ms)) := hT
  clear hT
  have HF : Hid (StampPost w Bt ck (some sa) sl sc st ms ca cl Z (.returned (.agg #[.slice (some sa) sl sc, .int .i64 (wrap64 (ms + 1))]))
      (((w.setCell ⟨Bt, 5, none⟩ (.int .i64 (wrap64 (ms + 1)))).setCell ⟨Bt, 4, none⟩ (.int .i64 (wrap64 (st + 1)))).alloc (.cells #[.slice (some sa) sl sc, .int .i64 (wrap64 (ms + 1))] 52)).drew) := by
    refine ⟨_, _, _, rfl, ?_, ?_, fun _ => ⟨rfl, rfl, rfl⟩, fun h => by cases h⟩
    · exact (((((HT.out.set 5 _).congr (fun c hc => trF_set5 _ _ _ _ _ c hc)).set 4 _).congr (fun c hc => trF_set4 _ _ _ _ _ c hc)).alloc _).drew
    · exact ((((Only.refl (· = Bt) w).setCell (x := ⟨Bt, 5, none⟩) rfl _).setCell (x := ⟨Bt, 4, none⟩) rfl _).alloc _).drew
  go_enter Tryf.func37, Tryf.ntmps37
  go_wp2
  go_region
  all_goals go_wp2
  exact bodyPost_ret (v := .agg #[.slice (some sa) sl sc, .int .i64 (wrap64 (ms + 1))]) (by simp [results, Tryf.results37, go_sem]) rfl HF.out

set_option maxRecDepth 100000 in
set_option maxHeartbeats 1000000 in
theorem stamp_nil (w : World) (Bt Bf : Nat) (Bc K cK ix : Nat) (sl sc : Nat) (st ms : Int) (ca : Option Addr) (cl cc : Nat) (Z : Nat → Int)
    (hT : w.rowIs Bt 113 8 (trF (.slice (some ⟨Bc, 0, none⟩) K cK) (.slice none sl sc) st ms)) (hf : w.cell? ⟨Bf, 1, none⟩ = some (.int .i64 ix)) (hix : ix < K) (hK : K ≤ 1048576)
    (hc : w.cell? ⟨Bc, ix, none⟩ = some (.slice ca cl cc)) (hcl : cl ≤ 1048576) (hcn : ca = none → cl = 0) (hZ : IntsAt w ca cl Z) (hft : Bf ≠ Bt) (hct : Bc ≠ Bt) :
    Calls Tryf.prog 37 #[.pointer (some ⟨Bt, 0, none⟩), .pointer (some ⟨Bf, 0, none⟩)] w (StampPost w Bt (.slice (some ⟨Bc, 0, none⟩) K cK) none sl sc st ms ca cl Z) := by
  have heq := fun wx => Lib.run_eql_slice_nil (P := Tryf.prog) wx 50 3 none sl sc 0 0 Tryf.underlying50
  have c1 : w.cell? ⟨Bt, 1, none⟩ = some (.slice (some ⟨Bc, 0, none⟩) K cK) := hT.cell (i := 1) (by omega)
  have c2 : w.cell? ⟨Bt, 2, none⟩ = some (.slice none sl sc) := hT.cell (i := 2) (by omega)
  have fT := hT.frozen
  have hl := hT.lt
  have hne : Bt ≠ w.heap.size := by omega
  have hTa := hT.alloc (.cells #[.slice none 0 0, .int .i64 0] 52)
  have HT : Hid ((w.alloc (.cells #[.slice none 0 0, .int .i64 0] 52)).rowIs Bt 113 8 (trF (.slice (some ⟨Bc, 0, none⟩) K cK) (.slice none sl sc) st ms)) := hTa
  have k1 := farA (O := .cells #[.slice none 0 0, .int .i64 0] 52) c1
  have kf := farA (O := .cells #[.slice none 0 0, .int .i64 0] 52) hf
  have kc := farA (O := .cells #[.slice none 0 0, .int .i64 0] 52) hc
  have HZ : Hid (IntsAt (w.alloc (.cells #[.slice none 0 0, .int .i64 0] 52)).drew ca cl Z) := hZ.below (((Below.refl _ _).alloc (Nat.le_refl _) _).drew) (Nat.le_refl _)
  have HN : Hid (ca = none → cl = 0) := hcn
  have h1 : (ix : Int) < (K : Int) := by omega
  have hlf : Bf < w.heap.size := World.block_lt_of_cell? w _ hf
  have hlc : Bc < w.heap.size := World.block_lt_of_cell? w _ hc
  clear hT hTa hZ hcn
  go_enter Tryf.func37, Tryf.ntmps37
  go_wp2
  go_region_held3 (fun w' => w'.cell? ⟨Bt, 1, none⟩ = some (.slice (some ⟨Bc, 0, none⟩) K cK) ∧ w'.cell? ⟨Bf, 1, none⟩ = some (.int .i64 ix) ∧ w'.cell? ⟨Bc, ix, none⟩ = some (.slice ca cl cc))
    (go_keep)
    (first | (go_at_call 41; refine (clone_any ca cl cc Z _ hcl HN.out HZ.out).mono ?_; rintro e w1 ⟨b, m, rfl, hb1, hbn, hIf⟩; have HB : Hid (Below (w.alloc (.cells #[.slice none 0 0, .int .i64 0] 52)).drew.heap.size (w.alloc (.cells #[.slice none 0 0, .int .i64 0] 52)).drew w1) := hb1; have e1 := later hb1 k1; have ef := later hb1 kf; have ec := later hb1 kc; have HBN : Hid (b = none ↔ ca = none) := hbn; have HIF : Hid (IntsFrom (w.alloc (.cells #[.slice none 0 0, .int .i64 0] 52)).drew.heap.size w1 b cl Z) := hIf; have d2 := later hb1 (HT.out.cell (i := 2) (by omega)); have g2 : w1.frozen? ⟨Bt, 2, none⟩ = false := laterF hb1 (by simp; omega) 2 (HT.out.frozen 2); have E1 : ∀ v, (w1.setCell ⟨Bt, 2, none⟩ v).cell? ⟨Bt, 1, none⟩ = some (.slice (some ⟨Bc, 0, none⟩) K cK) := fun v => farO (by omega) e1; have Ef : ∀ v, (w1.setCell ⟨Bt, 2, none⟩ v).cell? ⟨Bf, 1, none⟩ = some (.int .i64 ix) := fun v => far0 hft ef; have Ec : ∀ v, (w1.setCell ⟨Bt, 2, none⟩ v).cell? ⟨Bc, ix, none⟩ = some (.slice ca cl cc) := fun v => far0 hct ec; clear hb1 hbn hIf))
  have hT1 : w1.rowIs Bt 113 8 (trF (.slice (some ⟨Bc, 0, none⟩) K cK) (.slice none sl sc) st ms) := HT.out.of_block (HB.out.block _ (by show Bt < (w.alloc _).heap.size; simp; omega))
  have hT2 := (hT1.set 2 (.slice b cl m)).congr (fun c hc => trF_set2 _ _ _ _ _ c hc)
  have hz1 : w.heap.size < w1.heap.size := by have := HB.out.size; have e0 : (w.alloc (.cells #[.slice none 0 0, .int .i64 0] 52)).drew.heap.size = w.heap.size + 1 := by show (w.alloc _).heap.size = _; simp
                                              omega
  have r0 : w1.cell? ⟨w.heap.size, 0, none⟩ = some (.slice none 0 0) := later HB.out (by simp)
  have r1 : w1.cell? ⟨w.heap.size, 1, none⟩ = some (.int .i64 0) := later HB.out (by simp)
  have f0 : w1.frozen? ⟨w.heap.size, 0, none⟩ = false := laterF HB.out (by simp) 0 (by simp)
  have f1 : w1.frozen? ⟨w.heap.size, 1, none⟩ = false := laterF HB.out (by simp) 1 (by simp)
  have c4 : (w1.setCell ⟨Bt, 2, none⟩ (.slice b cl m)).cell? ⟨Bt, 4, none⟩ = some (.int .i64 st) := hT2.cell (i := 4) (by omega)
  have c5 : (w1.setCell ⟨Bt, 2, none⟩ (.slice b cl m)).cell? ⟨Bt, 5, none⟩ = some (.int .i64 ms) := hT2.cell (i := 5) (by omega)
  have fT1 := hT1.frozen
  have k4 : w1.cell? ⟨Bt, 4, none⟩ = some (.int .i64 st) := hT1.cell (i := 4) (by omega)
  have k5 : w1.cell? ⟨Bt, 5, none⟩ = some (.int .i64 ms) := hT1.cell (i := 5) (by omega)
  have k2 : w1.cell? ⟨Bt, 2, none⟩ = some (.slice none sl sc) := hT1.cell (i := 2) (by omega)
  have HT2 : Hid ((w1.setCell ⟨Bt, 2, none⟩ (.slice b cl m)).rowIs Bt 113 8 (trF (.slice (some ⟨Bc, 0, none⟩) K cK) (.slice b cl m) st ms)) := hT2
  have o0 : Only (fun k => k = Bt) w (w.alloc (.cells #[.slice none 0 0, .int .i64 0] 52)).drew := ((Only.refl _ w).alloc _).drew
  have o1 : Only (fun k => k = Bt) w w1 := o0.trans (Only.ofBelow HB.out)
  have o2 := Only.setCell o1 (x := ⟨Bt, 2, none⟩) (show Bt = Bt from rfl) (.slice b cl m)
  have o3 := Only.setCell o2 (x := ⟨Bt, 5, none⟩) (show Bt = Bt from rfl) (.int .i64 (wrap64 (ms + 1)))
  have o4 := Only.setCell o3 (x := ⟨Bt, 4, none⟩) (show Bt = Bt from rfl) (.int .i64 (wrap64 (st + 1)))
  have o5 := Only.setNew o4 (x := ⟨w.heap.size, 0, none⟩) (Nat.le_refl _) (.slice b cl m)
  have o6 := Only.setNew o5 (x := ⟨w.heap.size, 1, none⟩) (Nat.le_refl _) (.int .i64 (wrap64 (ms + 1)))
  have HO : Hid (Only (fun k => k = Bt) w _) := o6.drew
  clear o0 o1 o2 o3 o4 o5 o6
  have j0 : IntsFrom (w.heap.size + 1) w1 b cl Z := HIF.out.mono (by show _ ≤ (w.alloc _).heap.size; simp)
  have j2 := IntsFrom.set j0 (p := ⟨Bt, 2, none⟩) (by show Bt < _; omega) (.slice b cl m)
  have j3 := IntsFrom.set j2 (p := ⟨Bt, 5, none⟩) (by show Bt < _; omega) (.int .i64 (wrap64 (ms + 1)))
  have j4 := IntsFrom.set j3 (p := ⟨Bt, 4, none⟩) (by show Bt < _; omega) (.int .i64 (wrap64 (st + 1)))
  have j5 := IntsFrom.set j4 (p := ⟨w.heap.size, 0, none⟩) (Nat.lt_succ_self _) (.slice b cl m)
  have j6 := IntsFrom.set j5 (p := ⟨w.heap.size, 1, none⟩) (Nat.lt_succ_self _) (.int .i64 (wrap64 (ms + 1)))
  have HI : Hid (IntsFrom w.heap.size (World.drew _) b cl Z) := IntsFrom.drew (j6.mono (by omega))
  clear j0 j2 j3 j4 j5 j6
  clear hT1 hT2 E1 Ef Ec e1 ef ec k1 kf kc d2 c4 c5
  go_wp2
  go_region
  all_goals go_wp2
  refine bodyPost_ret (v := .agg #[.slice b cl m, .int .i64 (wrap64 (ms + 1))]) (by simp [results, Tryf.results37, go_sem, r0, r1, hne, Ne.symm hne]) rfl ⟨b, cl, m, rfl, ?_, ?_, fun h => absurd rfl h, fun _ => ⟨rfl, HBN.out, ?_⟩⟩
  · exact ((((((HT2.out.set 5 _).congr (fun c hc => trF_set5 _ _ _ _ _ c hc)).set 4 _).congr (fun c hc => trF_set4 _ _ _ _ _ c hc)).setOther (a := ⟨w.heap.size, 0, none⟩) hne _).setOther (a := ⟨w.heap.size, 1, none⟩) hne _).drew
  · exact HO.out
  · exact HI.out

end Go.Proofs.Qxb6608660aFmt

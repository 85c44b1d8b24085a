/- My own work on the program: the row, lifted, and the tied card. -/
import Derived.Test.Qxb6613731aDoorCards
import Derived.Test.Qxb6613731aDoorTie
import Derived.Test.Qxb6613731aDoorW1
import Derived.ChangeSame
import Derived.ChangeVars
import Derived.JoinedOf
import Derived.RowKit
import Derived.LaidMore
import Derived.LaidHandle
import Derived.OpenShut
import Derived.SevenTiedAt
namespace Go.Proofs.Qxb6613731aDoor
open Go.ChangeShapes Go.WideShapes Go.RowKit

theorem own : ownKnob Tryd.prog.godebug = none := by kernel_rfl
/-- The variable that the row names. -/
abbrev tn : String := Rows.fnSyntaxRangeIsTheSignedRangeOfItsWidthRow.named.headD ""
theorem gTypes : Tryd.prog.globalNamed tn = some 0 := by kernel_rfl
theorem tTypes : (Tryd.prog.globals[0]?).map (·.type) = some 27 := by kernel_rfl
theorem cells27 : Tryd.prog.cellsOf 27 = 8 := by kernel_rfl
theorem cells26 : Tryd.prog.cellsOf 26 = 2 := by kernel_rfl

abbrev laidL : List (String × DataW Unit) := Rows.fnSyntaxRangeIsTheSignedRangeOfItsWidthRow.laid

/-- The table's eight cells. -/
def cells8 : Array Value := #[.string { data := #[73, 78, 84] }, .int .i64 32, .string { data := #[86, 65, 82, 67, 72, 65, 82] }, .int .i64 0, .string { data := #[66, 73, 71, 73, 78, 84] }, .int .i64 64, .string { data := #[68, 65, 84, 69, 84, 73, 77, 69] }, .int .i64 0]

/-- The table as a datum (the given row's, typed out). -/
def tableH {H : Type} : DataW H := .agg [.agg [.lit (.string [73, 78, 84]), .lit (.int .i64 32)], .agg [.lit (.string [86, 65, 82, 67, 72, 65, 82]), .lit (.int .i64 0)], .agg [.lit (.string [66, 73, 71, 73, 78, 84]), .lit (.int .i64 64)], .agg [.lit (.string [68, 65, 84, 69, 84, 73, 77, 69]), .lit (.int .i64 0)]]

theorem reads_table {H : Type} (enc : TypeId × Value → H) (W : World) (sp : Nat → Bool) : DataW.trod enc Tryd.prog W 0 sp true 4 27 cells8.toList = some (tableH, []) := by kernel_rfl

theorem cells9 : Tryd.prog.cellsOf 9 = 1 := by kernel_rfl
theorem cells3 : Tryd.prog.cellsOf 3 = 1 := by kernel_rfl

/-- One row of the table, off its datum. -/
theorem pair_of_trod {H : Type} {enc : TypeId × Value → H} {w : World} {base : Nat} {sp : Nat → Bool} {held : Bool} {fuel : Nat} {a b : Value} {s : List UInt8} {n : Int} {x : DataW H × List MemPlace}
    (h : DataW.trod enc Tryd.prog w base sp held fuel 26 [a, b] = some x) (hx : x.1 = .agg [.lit (.string s), .lit (.int .i64 n)]) : a = .string ⟨s.toArray⟩ ∧ b = .int .i64 n := by
  obtain ⟨y0, y1, m, rfl, _, h0, h1⟩ := trod_struct2 Tryd.underlying26 h
  simp only [cells9, cells3, List.drop_zero, List.take_succ_cons, List.take_zero, List.drop_succ_cons] at h0 h1
  obtain ⟨s', e0, rfl, _⟩ := DataW.trod_string Tryd.underlying9 h0
  obtain ⟨n', e1, rfl, _⟩ := DataW.trod_int Tryd.underlying3 h1
  simp only [List.cons.injEq, and_true] at e0 e1
  subst e0 e1
  simp only [DataW.agg.injEq, List.cons.injEq, DataW.lit.injEq, Lit.string.injEq, Lit.int.injEq, and_true, true_and] at hx
  obtain ⟨rfl, rfl⟩ := hx
  exact ⟨rfl, rfl⟩

theorem cells_of_laid {W : World} (h : laidMet Tryd.prog laidL W) : W.var? Tryd.prog tn = some cells8 := by
  obtain ⟨ps, ⟨g, t, cs, fuel, p, q, hg, ht, hvar, hd, _, _⟩, _⟩ := h
  obtain rfl := Option.some.inj (gTypes.symm.trans hg)
  obtain rfl := Option.some.inj (tTypes.symm.trans ht)
  have hvar' : W.var? Tryd.prog tn = some cs := hvar
  rw [hvar']
  congr 1
  obtain ⟨l⟩ := cs
  obtain ⟨xs, m, rfl, hx0, hl, hn, hel⟩ := DataW.trod_array Tryd.underlying27 hd
  have hx := congrArg (·.1) (show ((tableH, p) : DataW Unit × List MemPlace) = _ from hx0)
  rw [cells27] at hl
  simp only [cells26] at hel
  simp only [tableH, DataW.agg.injEq] at hx
  match l, hl, xs, hn, hx, hel with
  | [c0, c1, c2, c3, c4, c5, c6, c7], _, [x0, x1, x2, x3], _, hx, hel =>
    simp only [List.map_cons, List.map_nil, List.cons.injEq, and_true] at hx
    obtain ⟨e0, e1, e2, e3⟩ := hx
    obtain ⟨rfl, rfl⟩ := pair_of_trod (show DataW.trod _ Tryd.prog W _ _ _ m 26 [c0, c1] = some x0 from hel 0 (by decide)) e0.symm
    obtain ⟨rfl, rfl⟩ := pair_of_trod (show DataW.trod _ Tryd.prog W _ _ _ m 26 [c2, c3] = some x1 from hel 1 (by decide)) e1.symm
    obtain ⟨rfl, rfl⟩ := pair_of_trod (show DataW.trod _ Tryd.prog W _ _ _ m 26 [c4, c5] = some x2 from hel 2 (by decide)) e2.symm
    obtain ⟨rfl, rfl⟩ := pair_of_trod (show DataW.trod _ Tryd.prog W _ _ _ m 26 [c6, c7] = some x3 from hel 3 (by decide)) e3.symm
    rfl

/-- The door's own heap meets the condition: three closed facts. -/
theorem door_met (os : Os) (args : Array Value) : laidMetH Tryd.prog laidL ((World.doorLaid Tryd.prog 400 os).forCall (fun _ _ => 0) ⟨#[], args, []⟩).memory :=
  laidMetH_of_parts3 (fuel := 8) (laidMet_of_run' 8 (by kernel_rfl) (by kernel_rfl)) (by kernel_rfl) (by kernel_rfl)


set_option maxRecDepth 100000 in
theorem lifted (os : Os) (started : os.Started) (H : Type) (enc : TypeId × Value → H) :
    ReturnsInHanded {} Tryd.checked os 3 .any (fun w args => (Rows.fnSyntaxRangeIsTheSignedRangeOfItsWidthSpec.pre enc Tryd.prog Tryd.f3 [] false w args ∧ laidMetH Tryd.prog laidL w) ∧ sizedMet enc Tryd.prog Tryd.f3 (OpenSpec.ofChange Rows.fnSyntaxRangeIsTheSignedRangeOfItsWidthSpec) false w args)
      (Rows.fnSyntaxRangeIsTheSignedRangeOfItsWidthSpec.post enc Tryd.prog Tryd.f3 false true false false) := by
  refine returnsInHanded_of_change_and (C := Tryd.checked) (X := fun w _ => laidMetH Tryd.prog laidL w) (fun _ _ _ hh h => h.of_heap hh) own started (by kernel_rfl) Tryd.func3
    (ChangeSpec.witness_shaped (enc := enc) (C := Tryd.checked) (os := os) (X := fun w _ => laidMetH Tryd.prog laidL w) false (World.doorLaid Tryd.prog 400 os) #[.int .u8 0, .int .i64 0] 8 rfl (World.shaped_of_RefB (by kernel_rfl) (by kernel_rfl)) (by kernel_rfl) (by kernel_rfl) (by kernel_rfl) (door_met os _)) ?_
  intro W base args ds gs before hval0 hW _ _ hL _
  have hval : ∀ (j : Nat) t v, Tryd.f3.params[j]? = some t → args[j]? = some v → Value.okWide Tryd.prog W .any base t v := hval0
  have hW' := hW
  obtain ⟨p, q, hA0, hV0, rfl, hfz, hnd⟩ := hW
  have hA : DataW.TrodAll enc Tryd.prog W 0 (fun _ => true) true Tryd.f3.params.toList args.toList ds p := hA0
  have hV : DataW.TrodVars enc Tryd.prog W (fun _ => true) [tn] gs q := hV0
  rw [Tryd.params3] at hA hval
  obtain ⟨v0, v1, d0, d1, p0, p1, rfl, rfl, rfl, h0, h1⟩ := trodAll_two hA
  obtain ⟨ty, rfl, rfl, rfl, hw0⟩ := open_int Tryd.underlying5 (hval 0 5 v0 rfl rfl) h0
  obtain ⟨x, rfl, rfl, rfl, hw1⟩ := open_int Tryd.underlying2 (hval 1 2 v1 rfl rfl) h1
  obtain ⟨g, t, cs, fuel, d, p', rfl, hg, ht, hvar, hd, rfl⟩ := trodVars_one hV
  obtain rfl := Option.some.inj (gTypes.symm.trans hg)
  obtain rfl := Option.some.inj (tTypes.symm.trans ht)
  rw [MakeChecks.laidMetH_plain _ _ _ (by kernel_rfl)] at hL
  obtain rfl : cs = cells8 := Option.some.inj (hvar.symm.trans (cells_of_laid hL))
  obtain ⟨rfl, rfl⟩ := DataW.Trod.unique (v := .agg cells8) ⟨fuel, hd⟩ ⟨4, reads_table enc W _⟩
  clear hA0 hV0 hval0
  have hvars : ∀ sp : Nat → Bool, DataW.TrodVars enc Tryd.prog W sp [tn] [tableH] (MemPlace.row ⟨0, 0, none⟩ cells8.size ++ [] ++ []) := fun sp =>
    ⟨0, 27, cells8, 4, [], [], hg, ht, hvar, reads_table enc W sp, rfl, rfl⟩
  have c1 : W.cell? ⟨0, 1, none⟩ = some (.int .i64 32) := World.var?_cell hg hvar 1
  have c5 : W.cell? ⟨0, 5, none⟩ = some (.int .i64 64) := World.var?_cell hg hvar 5
  have hr : -9223372036854775808 ≤ x ∧ x ≤ 9223372036854775807 := by
    simpa [Lit.wf, IntKind.min, IntKind.max, IntKind.signed, IntKind.bits] using hw1
  have all : Calls Tryd.prog 3 #[.int .u8 ty, .int .i64 x] W fun e w' => e = .returned (.bool true) ∧ w'.Alike W := by
    by_cases e0 : ty = 0
    · subst e0; exact law_int x W c1 c5
    · by_cases e2 : ty = 2
      · subst e2; exact law_big x W hr.1 hr.2 c5
      · exact law_other ty x W e0 e2
  refine all.mono fun e W' ⟨he, hw⟩ => ?_
  subst he
  exact ⟨_, rfl, ChangeSpec.post_alike (post_of_same (pa := []) hW' (fun _ _ _ => trodAll_mk1 (shut_bool Tryd.underlying4 true)) (fun sp _ => trodAll_mk2 (shut_int Tryd.underlying5 hw0) (shut_int Tryd.underlying2 hw1)) (fun sp _ => hvars sp) (by simp)
      (World.keptBut_refl _ _) (fun _ => rfl) (ok_one (by kernel_rfl) rfl (okWide_bool_mk Tryd.underlying4 _))) hw⟩

theorem row_holds : Rows.FnSyntaxRangeIsTheSignedRangeOfItsWidthSaid :=
  OpenClaim.holds_of_wide 3 Tryd.f3 rfl rfl rfl rfl rfl rfl rfl ⟨rfl, rfl, rfl, rfl, rfl⟩ rfl rfl rfl rfl rfl (by kernel_rfl) Tryd.func3 (by kernel_rfl)
    (of_decide_eq_true (by kernel_rfl)) (by unfold Func.isWrapper; rw [if_neg (of_decide_eq_false (by kernel_rfl))]; exact ⟨rfl, rfl⟩)
    (fun os started H enc _ => lifted os started H enc)

/-- The tied card. -/
theorem card_holds : Rows.FnSyntaxRangeIsTheSignedRangeOfItsWidthCardSaid :=
  Claim7.holds_tied_plain_at .later [] [.data] true (true, "cc71bfd65efc94bbb9e2a6841a5377a9683bbac25db912715ce2929ef7032f52") false
    row_holds (fun _ h => by cases h) (by kernel_rfl) (fun _ h => by cases h) fnSyntaxRangeIsTheSignedRangeOfItsWidth_row_tie rfl ⟨rfl, rfl⟩ (by kernel_rfl) rfl
    (fun f fn hf hfn => by
      obtain rfl : f = 3 := Option.some.inj ((show Tryd.prog.funcNamed Rows.fnSyntaxRangeIsTheSignedRangeOfItsWidthRow.func = some 3 by kernel_rfl).symm.trans hf) |>.symm
      obtain rfl : fn = Tryd.f3 := (Option.some.inj (Tryd.func3.symm.trans hfn)).symm
      exact ⟨by kernel_rfl, fun j t ht => by
        rw [Tryd.params3] at ht
        have h3 : t = 5 ∨ t = 2 := by
          rcases j with _ | _ | j
          · left; simpa using ht.symm
          · right; simpa using ht.symm
          · simp at ht
        rcases h3 with rfl | rfl
        · exact (show Tryd.prog.wantsStandIn 5 = false by kernel_rfl)
        · exact (show Tryd.prog.wantsStandIn 2 = false by kernel_rfl)⟩)
    (by kernel_rfl)
end Go.Proofs.Qxb6613731aDoor

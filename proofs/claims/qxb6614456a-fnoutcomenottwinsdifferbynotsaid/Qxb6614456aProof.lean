/-
  THE STATEMENT 'Rows.FnOutcomeNotTwinsDifferByNotSaid': the frame after the guide's skeleton, turned to slices of structs.
-/
import Derived.Test.Qxb6614456aRows
import Derived.Test.Qxb6614456aW16
import Derived.Test.Qxb6614456aOpen
import Derived.WalkKit
import Derived.ProofKit
import Derived.OpenShut
import Derived.ChangeOld
import Derived.Below
namespace Go.Proofs.Qxb6614456a.notTwins
open Go.ChangeShapes Go.WideShapes Go.ChangeAt Go.RowKit
set_option linter.unusedVariables false

theorem own : ownKnob Try.prog.godebug = none := by kernel_rfl
theorem laidOut : laidOutB Try.prog = true := by kernel_rfl

set_option maxRecDepth 100000 in
theorem lifted (os : Os) (started : os.Started) (H : Type) (enc : TypeId × Value → H) :
    ReturnsInHanded {} Try.checked os 6 .any (Rows.fnOutcomeNotTwinsDifferByNotSpec.pre6 enc Try.prog Try.f6 Rows.fnOutcomeNotTwinsDifferByNotRow.domain false) (Rows.fnOutcomeNotTwinsDifferByNotSpec.post enc Try.prog Try.f6 false true false false) := by
  refine returnsInHanded_of_change (C := Try.checked) own started (by kernel_rfl) Try.func6
    (ChangeSpec.witness6 (enc := enc) (C := Try.checked) false ⟨#[], #[.int .u8 0, .int .i64 0, .bool false, .bool false, .bool false, .slice none 0 0, .slice none 0 0], []⟩ 8 (by kernel_rfl) (by kernel_rfl) (by kernel_rfl) (by kernel_rfl)) ?_
  intro W base args ds gs before hval0 hW hcnd _
  have hval : ∀ (j : Nat) t v, Try.f6.params[j]? = some t → args[j]? = some v → Value.okWide Try.prog W .any base t v := hval0
  have hW' := hW
  obtain ⟨p, q, hA0, hV, rfl, hfz, hnd⟩ := hW
  have hA : DataW.TrodAll enc Try.prog W 0 (fun _ => true) true Try.f6.params.toList args.toList ds p := hA0
  rw [Try.params6] at hA hval
  obtain ⟨v0, vs0, d0, ds0, p0, q0, hargs, rfl, rfl, h0, r0⟩ := trodAll_cons hA
  obtain ⟨v1, vs1, d1, ds1, p1, q1, rfl, rfl, rfl, h1, r1⟩ := trodAll_cons r0
  obtain ⟨v2, vs2, d2, ds2, p2, q2, rfl, rfl, rfl, h2, r2⟩ := trodAll_cons r1
  obtain ⟨v3, vs3, d3, ds3, p3, q3, rfl, rfl, rfl, h3, r3⟩ := trodAll_cons r2
  obtain ⟨v4, vs4, d4, ds4, p4, q4, rfl, rfl, rfl, h4, r4⟩ := trodAll_cons r3
  obtain ⟨v5, vs5, d5, ds5, p5, q5, rfl, rfl, rfl, h5, r5⟩ := trodAll_cons r4
  obtain ⟨v6, vs6, d6, ds6, p6, q6, rfl, rfl, rfl, h6, r6⟩ := trodAll_cons r5
  obtain ⟨rfl, rfl, rfl⟩ := trodAll_nil r6
  obtain rfl : args = #[v0, v1, v2, v3, v4, v5, v6] := by cases args; simp_all
  obtain ⟨rfl, rfl⟩ := trodVars_none hV
  obtain ⟨ms, rfl⟩ := okWide_int Try.underlying5 (hval 0 5 v0 rfl rfl)
  obtain ⟨at', rfl⟩ := okWide_int Try.underlying3 (hval 1 3 v1 rfl rfl)
  obtain ⟨x2, rfl⟩ := okWide_bool Try.underlying4 (hval 2 4 v2 rfl rfl)
  obtain ⟨x3, rfl⟩ := okWide_bool Try.underlying4 (hval 3 4 v3 rfl rfl)
  obtain ⟨x4, rfl⟩ := okWide_bool Try.underlying4 (hval 4 4 v4 rfl rfl)
  obtain ⟨a5, len5, cap5, rfl⟩ := okWide_slice Try.underlying36 (hval 5 36 v5 rfl rfl)
  obtain ⟨a6, len6, cap6, rfl⟩ := okWide_slice Try.underlying37 (hval 6 37 v6 rfl rfl)
  have k0 := h0
  have k1 := h1
  have k2 := h2
  have k3 := h3
  have k4 := h4
  have k5 := h5
  have k6 := h6
  have lt0 : ∀ x ∈ p0, x.block < W.heap.size := by obtain ⟨m, hm⟩ := k0; exact DataW.trod_lt m _ _ _ hm
  have lt1 : ∀ x ∈ p1, x.block < W.heap.size := by obtain ⟨m, hm⟩ := k1; exact DataW.trod_lt m _ _ _ hm
  have lt2 : ∀ x ∈ p2, x.block < W.heap.size := by obtain ⟨m, hm⟩ := k2; exact DataW.trod_lt m _ _ _ hm
  have lt3 : ∀ x ∈ p3, x.block < W.heap.size := by obtain ⟨m, hm⟩ := k3; exact DataW.trod_lt m _ _ _ hm
  have lt4 : ∀ x ∈ p4, x.block < W.heap.size := by obtain ⟨m, hm⟩ := k4; exact DataW.trod_lt m _ _ _ hm
  have lt5 : ∀ x ∈ p5, x.block < W.heap.size := by obtain ⟨m, hm⟩ := k5; exact DataW.trod_lt m _ _ _ hm
  have lt6 : ∀ x ∈ p6, x.block < W.heap.size := by obtain ⟨m, hm⟩ := k6; exact DataW.trod_lt m _ _ _ hm
  have hms : 0 ≤ ms := by
    obtain ⟨fuel, hf⟩ := h0
    obtain ⟨n, e, _, hw⟩ := DataW.trod_int Try.underlying5 hf
    simp [Value.cells] at e
    subst e
    simp [Lit.wf] at hw
    have : IntKind.u8.min = 0 := by decide
    omega
  obtain ⟨n5, O, K, T, I, w5, t5⟩ : len5 ≤ maxLen ∧ ∃ O K T I, CondsAt W a5 len5 O K T I ∧ ∀ i, i < len5 → (T i).size ≤ maxLen := by
    obtain ⟨fuel, hf⟩ := h5
    exact open_conds (by simpa [Value.cells] using hf)
  obtain ⟨n6, FI, FT, A, L, C, X, w6, t6⟩ : len6 ≤ maxLen ∧ ∃ I T A L C X, FactsAt W a6 len6 I T A L C X ∧ ∀ i, i < len6 → (T i).size ≤ maxLen := by
    obtain ⟨fuel, hf⟩ := h6
    exact open_facts (by simpa [Value.cells] using hf)
  clear hA0 hval0
  refine (law_any ms at' x2 x3 x4 a5 len5 cap5 O K T I a6 len6 cap6 FI FT A L C X W hms n5 n6 w5 w6 t5 t6).mono fun e W' ⟨he, bel⟩ => ?_
  subst he
  exact ⟨_, rfl, _, _, _, [], _, [], hW', trodAll_mk1 (shut_bool Try.underlying4 _),
    (trodAll_cons_mk (Below.trod laidOut (by kernel_rfl) (of_decide_eq_true (by kernel_rfl)) k0 bel lt0)
    (trodAll_cons_mk (Below.trod laidOut (by kernel_rfl) (of_decide_eq_true (by kernel_rfl)) k1 bel lt1)
    (trodAll_cons_mk (Below.trod laidOut (by kernel_rfl) (of_decide_eq_true (by kernel_rfl)) k2 bel lt2)
    (trodAll_cons_mk (Below.trod laidOut (by kernel_rfl) (of_decide_eq_true (by kernel_rfl)) k3 bel lt3)
    (trodAll_cons_mk (Below.trod laidOut (by kernel_rfl) (of_decide_eq_true (by kernel_rfl)) k4 bel lt4)
    (trodAll_cons_mk (Below.trod laidOut (by kernel_rfl) (of_decide_eq_true (by kernel_rfl)) k5 bel lt5)
    (trodAll_cons_mk (Below.trod laidOut (by kernel_rfl) (of_decide_eq_true (by kernel_rfl)) k6 bel lt6) trodAll_mk0))))))), rfl, bel.frame _, fun h => by cases h⟩

theorem over : Rows.fnOutcomeNotTwinsDifferByNotRow.holds Try.pinned (OpenSpec.ofChange Rows.fnOutcomeNotTwinsDifferByNotSpec) :=
  OpenClaim.holds_of_wide 6 Try.f6 rfl rfl rfl rfl rfl rfl rfl ⟨rfl, rfl, rfl, rfl, rfl⟩ rfl rfl rfl rfl rfl (by kernel_rfl) Try.func6 (by kernel_rfl)
    (of_decide_eq_true (by kernel_rfl)) (by unfold Func.isWrapper; first | (rw [if_pos (by decide +kernel)]; kernel_rfl) | (rw [if_neg (by decide +kernel)]; exact ⟨rfl, rfl⟩))
    (fun os started H enc _ => lifted os started H enc)

/-- THE STATEMENT. -/
theorem proved : Rows.FnOutcomeNotTwinsDifferByNotSaid := over
end Go.Proofs.Qxb6614456a.notTwins

/- My own work on the program: ZZoutcome. (Written by wip/tools/gen_o11.py.) -/
import Derived.Test.Qxb6614456aW10
namespace Go.Proofs.Qxb6614456a
open Go.RowKit
set_option linter.unusedVariables false
set_option linter.unusedSimpArgs false

/-- What the store of one value leaves. -/
theorem val_step {wr : World} {B n q : Nat} {f : Nat → Value} {S : Nat → ByteArray} {s : ByteArray} (hrow : wr.rowIs B 112 (n * 14) f) (hf : ∀ c, c < q * 14 → f c = valF S c) (hs : s = S q) :
    ∃ f', ((((((((((((((wr.setCell ⟨B, q * 14, none⟩ (.string s)).setCell ⟨B, q * 14 + 1, none⟩ (.bool false)).setCell ⟨B, q * 14 + 2, none⟩ (.string eS)).setCell ⟨B, q * 14 + 3, none⟩ (.int .i64 0)).setCell ⟨B, q * 14 + 4, none⟩ (.int .u64 0)).setCell ⟨B, q * 14 + 5, none⟩ (.int .i64 0)).setCell ⟨B, q * 14 + 6, none⟩ (.pointer none)).setCell ⟨B, q * 14 + 7, none⟩ (.bool false)).setCell ⟨B, q * 14 + 8, none⟩ (.int .u64 0)).setCell ⟨B, q * 14 + 9, none⟩ (.int .u64 0)).setCell ⟨B, q * 14 + 10, none⟩ (.pointer none)).setCell ⟨B, q * 14 + 11, none⟩ (.int .u8 0)).setCell ⟨B, q * 14 + 12, none⟩ (.bool false)).setCell ⟨B, q * 14 + 13, none⟩ (.bool false)).rowIs B 112 (n * 14) f' ∧ ∀ c, c < (q + 1) * 14 → f' c = valF S c := by
  refine ⟨_, ((((((((((((((hrow.set (q * 14) _).set (q * 14 + 1) _).set (q * 14 + 2) _).set (q * 14 + 3) _).set (q * 14 + 4) _).set (q * 14 + 5) _).set (q * 14 + 6) _).set (q * 14 + 7) _).set (q * 14 + 8) _).set (q * 14 + 9) _).set (q * 14 + 10) _).set (q * 14 + 11) _).set (q * 14 + 12) _).set (q * 14 + 13) _), fun i hi => ?_⟩
  subst hs
  by_cases e : i < q * 14
  · rw [← hf i e]
    simp only [show ¬ i = q * 14 + 13 from by omega, show ¬ i = q * 14 + 12 from by omega, show ¬ i = q * 14 + 11 from by omega, show ¬ i = q * 14 + 10 from by omega, show ¬ i = q * 14 + 9 from by omega, show ¬ i = q * 14 + 8 from by omega, show ¬ i = q * 14 + 7 from by omega, show ¬ i = q * 14 + 6 from by omega, show ¬ i = q * 14 + 5 from by omega, show ¬ i = q * 14 + 4 from by omega, show ¬ i = q * 14 + 3 from by omega, show ¬ i = q * 14 + 2 from by omega, show ¬ i = q * 14 + 1 from by omega, show ¬ i = q * 14 from by omega, if_false]
  · obtain ⟨j, hj, rfl⟩ : ∃ j, j < 14 ∧ i = q * 14 + j := ⟨i - q * 14, by omega, by omega⟩
    have e1 : (q * 14 + j) % 14 = j := by omega
    have e2 : (q * 14 + j) / 14 = q := by omega
    unfold valF
    rw [e1, e2]
    match j, hj with
    | 0, _ => simp [zc]
    | 1, _ => simp [zc]
    | 2, _ => simp [zc]
    | 3, _ => simp [zc]
    | 4, _ => simp [zc]
    | 5, _ => simp [zc]
    | 6, _ => simp [zc]
    | 7, _ => simp [zc]
    | 8, _ => simp [zc]
    | 9, _ => simp [zc]
    | 10, _ => simp [zc]
    | 11, _ => simp [zc]
    | 12, _ => simp [zc]
    | 13, _ => simp [zc]
    | j + 14, h => exact absurd h (by omega)
theorem val_below {wr W : World} {B C q : Nat} {s : ByteArray} (h : Below C W wr) (hB : C ≤ B) : Below C W ((((((((((((((wr.setCell ⟨B, q * 14, none⟩ (.string s)).setCell ⟨B, q * 14 + 1, none⟩ (.bool false)).setCell ⟨B, q * 14 + 2, none⟩ (.string eS)).setCell ⟨B, q * 14 + 3, none⟩ (.int .i64 0)).setCell ⟨B, q * 14 + 4, none⟩ (.int .u64 0)).setCell ⟨B, q * 14 + 5, none⟩ (.int .i64 0)).setCell ⟨B, q * 14 + 6, none⟩ (.pointer none)).setCell ⟨B, q * 14 + 7, none⟩ (.bool false)).setCell ⟨B, q * 14 + 8, none⟩ (.int .u64 0)).setCell ⟨B, q * 14 + 9, none⟩ (.int .u64 0)).setCell ⟨B, q * 14 + 10, none⟩ (.pointer none)).setCell ⟨B, q * 14 + 11, none⟩ (.int .u8 0)).setCell ⟨B, q * 14 + 12, none⟩ (.bool false)).setCell ⟨B, q * 14 + 13, none⟩ (.bool false)) := ((((((((((((((h.setCell (p := ⟨B, q * 14, none⟩) hB _).setCell (p := ⟨B, q * 14 + 1, none⟩) hB _).setCell (p := ⟨B, q * 14 + 2, none⟩) hB _).setCell (p := ⟨B, q * 14 + 3, none⟩) hB _).setCell (p := ⟨B, q * 14 + 4, none⟩) hB _).setCell (p := ⟨B, q * 14 + 5, none⟩) hB _).setCell (p := ⟨B, q * 14 + 6, none⟩) hB _).setCell (p := ⟨B, q * 14 + 7, none⟩) hB _).setCell (p := ⟨B, q * 14 + 8, none⟩) hB _).setCell (p := ⟨B, q * 14 + 9, none⟩) hB _).setCell (p := ⟨B, q * 14 + 10, none⟩) hB _).setCell (p := ⟨B, q * 14 + 11, none⟩) hB _).setCell (p := ⟨B, q * 14 + 12, none⟩) hB _).setCell (p := ⟨B, q * 14 + 13, none⟩) hB _)
end Go.Proofs.Qxb6614456a

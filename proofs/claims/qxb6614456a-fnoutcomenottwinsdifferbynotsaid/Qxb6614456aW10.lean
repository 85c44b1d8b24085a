/- My own work on the program: ZZoutcome. -/
import Derived.Test.Qxb6614456aW9
namespace Go.Proofs.Qxb6614456a
open Go.RowKit
set_option linter.unusedVariables false
set_option linter.unusedSimpArgs false

/-- The slices of texts that came in, one a listing. -/
def TextsAt (w : World) (a : Option Addr) (m : Nat) (A : Nat → Option Addr) (L C : Nat → Nat) (X : Nat → Nat → ByteArray) : Prop :=
  ∀ i, i < m → ∃ x o, a = some ⟨x, o, none⟩ ∧ w.cell? ⟨x, o + i, none⟩ = some (.slice (A i) (L i) (C i)) ∧ StrsAt w (A i) (L i) (X i) ∧ L i ≤ 1048576
theorem TextsAt.below {B : Nat} {w w' : World} {a : Option Addr} {m : Nat} {A : Nat → Option Addr} {L C : Nat → Nat} {X : Nat → Nat → ByteArray} (h : TextsAt w a m A L C X) (hb : Below B w w') (hB : w.heap.size ≤ B) : TextsAt w' a m A L C X := by
  intro i hi
  obtain ⟨x, o, e, h1, h2, h3⟩ := h i hi
  have := World.block_lt_of_cell? w _ h1
  exact ⟨x, o, e, (hb.cell (by simp at this ⊢; omega)).trans h1, h2.below hb hB, h3⟩

abbrev factsA (B : Nat) : Array Value := #[.slice none 0 0, .slice none 0 0, .slice none 0 0, .slice none 0 0, .slice none 0 0, .slice none 0 0, .slice none 0 0, .slice none 0 0, .slice none 0 0, .slice none 0 0, .slice none 0 0, .slice none 0 0, .slice none 0 0, .slice none 0 0, .slice none 0 0, .slice none 0 0, .slice none 0 0, .slice none 0 0, .slice none 0 0, .slice none 0 0, .slice none 0 0, .slice none 0 0, .slice none 0 0, .slice none 0 0, .slice none 0 0, .slice none 0 0, .slice none 0 0, .slice none 0 0, .slice none 0 0, .slice none 0 0, .slice none 0 0, .slice none 0 0, .slice none 0 0, .slice none 0 0, .slice none 0 0, .slice none 0 0, .slice none 0 0, .slice none 0 0, .slice none 0 0, .slice none 0 0, .slice none 0 0, .slice none 0 0, .slice none 0 0, .slice none 0 0, .slice none 0 0, .slice none 0 0, .slice none 0 0, .slice none 0 0, .slice none 0 0, .slice none 0 0, .slice none 0 0, .map (some B)]
theorem factsA_at (B : Nat) (V : Nat → Value) (hV : ∀ i, V i = .slice none 0 0) : ∀ i, i < (factsA B).size → (factsA B)[i]? = some (factsF V (.slice none 0 0) (.map (some B)) i) := by
  intro i hi
  have hi' : i < 52 := hi
  match i, hi' with
  | 0, _ => rfl
  | 1, _ => show some _ = some (factsF _ _ _ _); unfold factsF; rw [if_neg (by decide), if_pos (by decide), hV]; rfl
  | 2, _ => show some _ = some (factsF _ _ _ _); unfold factsF; rw [if_neg (by decide), if_pos (by decide), hV]; rfl
  | 3, _ => show some _ = some (factsF _ _ _ _); unfold factsF; rw [if_neg (by decide), if_pos (by decide), hV]; rfl
  | 4, _ => show some _ = some (factsF _ _ _ _); unfold factsF; rw [if_neg (by decide), if_pos (by decide), hV]; rfl
  | 5, _ => show some _ = some (factsF _ _ _ _); unfold factsF; rw [if_neg (by decide), if_pos (by decide), hV]; rfl
  | 6, _ => show some _ = some (factsF _ _ _ _); unfold factsF; rw [if_neg (by decide), if_pos (by decide), hV]; rfl
  | 7, _ => show some _ = some (factsF _ _ _ _); unfold factsF; rw [if_neg (by decide), if_pos (by decide), hV]; rfl
  | 8, _ => show some _ = some (factsF _ _ _ _); unfold factsF; rw [if_neg (by decide), if_pos (by decide), hV]; rfl
  | 9, _ => show some _ = some (factsF _ _ _ _); unfold factsF; rw [if_neg (by decide), if_pos (by decide), hV]; rfl
  | 10, _ => show some _ = some (factsF _ _ _ _); unfold factsF; rw [if_neg (by decide), if_pos (by decide), hV]; rfl
  | 11, _ => show some _ = some (factsF _ _ _ _); unfold factsF; rw [if_neg (by decide), if_pos (by decide), hV]; rfl
  | 12, _ => show some _ = some (factsF _ _ _ _); unfold factsF; rw [if_neg (by decide), if_pos (by decide), hV]; rfl
  | 13, _ => show some _ = some (factsF _ _ _ _); unfold factsF; rw [if_neg (by decide), if_pos (by decide), hV]; rfl
  | 14, _ => show some _ = some (factsF _ _ _ _); unfold factsF; rw [if_neg (by decide), if_pos (by decide), hV]; rfl
  | 15, _ => show some _ = some (factsF _ _ _ _); unfold factsF; rw [if_neg (by decide), if_pos (by decide), hV]; rfl
  | 16, _ => show some _ = some (factsF _ _ _ _); unfold factsF; rw [if_neg (by decide), if_pos (by decide), hV]; rfl
  | 17, _ => show some _ = some (factsF _ _ _ _); unfold factsF; rw [if_neg (by decide), if_pos (by decide), hV]; rfl
  | 18, _ => show some _ = some (factsF _ _ _ _); unfold factsF; rw [if_neg (by decide), if_pos (by decide), hV]; rfl
  | 19, _ => show some _ = some (factsF _ _ _ _); unfold factsF; rw [if_neg (by decide), if_pos (by decide), hV]; rfl
  | 20, _ => show some _ = some (factsF _ _ _ _); unfold factsF; rw [if_neg (by decide), if_pos (by decide), hV]; rfl
  | 21, _ => show some _ = some (factsF _ _ _ _); unfold factsF; rw [if_neg (by decide), if_pos (by decide), hV]; rfl
  | 22, _ => show some _ = some (factsF _ _ _ _); unfold factsF; rw [if_neg (by decide), if_pos (by decide), hV]; rfl
  | 23, _ => show some _ = some (factsF _ _ _ _); unfold factsF; rw [if_neg (by decide), if_pos (by decide), hV]; rfl
  | 24, _ => show some _ = some (factsF _ _ _ _); unfold factsF; rw [if_neg (by decide), if_pos (by decide), hV]; rfl
  | 25, _ => show some _ = some (factsF _ _ _ _); unfold factsF; rw [if_neg (by decide), if_pos (by decide), hV]; rfl
  | 26, _ => show some _ = some (factsF _ _ _ _); unfold factsF; rw [if_neg (by decide), if_pos (by decide), hV]; rfl
  | 27, _ => show some _ = some (factsF _ _ _ _); unfold factsF; rw [if_neg (by decide), if_pos (by decide), hV]; rfl
  | 28, _ => show some _ = some (factsF _ _ _ _); unfold factsF; rw [if_neg (by decide), if_pos (by decide), hV]; rfl
  | 29, _ => show some _ = some (factsF _ _ _ _); unfold factsF; rw [if_neg (by decide), if_pos (by decide), hV]; rfl
  | 30, _ => show some _ = some (factsF _ _ _ _); unfold factsF; rw [if_neg (by decide), if_pos (by decide), hV]; rfl
  | 31, _ => show some _ = some (factsF _ _ _ _); unfold factsF; rw [if_neg (by decide), if_pos (by decide), hV]; rfl
  | 32, _ => show some _ = some (factsF _ _ _ _); unfold factsF; rw [if_neg (by decide), if_pos (by decide), hV]; rfl
  | 33, _ => show some _ = some (factsF _ _ _ _); unfold factsF; rw [if_neg (by decide), if_pos (by decide), hV]; rfl
  | 34, _ => show some _ = some (factsF _ _ _ _); unfold factsF; rw [if_neg (by decide), if_pos (by decide), hV]; rfl
  | 35, _ => show some _ = some (factsF _ _ _ _); unfold factsF; rw [if_neg (by decide), if_pos (by decide), hV]; rfl
  | 36, _ => show some _ = some (factsF _ _ _ _); unfold factsF; rw [if_neg (by decide), if_pos (by decide), hV]; rfl
  | 37, _ => show some _ = some (factsF _ _ _ _); unfold factsF; rw [if_neg (by decide), if_pos (by decide), hV]; rfl
  | 38, _ => show some _ = some (factsF _ _ _ _); unfold factsF; rw [if_neg (by decide), if_pos (by decide), hV]; rfl
  | 39, _ => show some _ = some (factsF _ _ _ _); unfold factsF; rw [if_neg (by decide), if_pos (by decide), hV]; rfl
  | 40, _ => show some _ = some (factsF _ _ _ _); unfold factsF; rw [if_neg (by decide), if_pos (by decide), hV]; rfl
  | 41, _ => show some _ = some (factsF _ _ _ _); unfold factsF; rw [if_neg (by decide), if_pos (by decide), hV]; rfl
  | 42, _ => show some _ = some (factsF _ _ _ _); unfold factsF; rw [if_neg (by decide), if_pos (by decide), hV]; rfl
  | 43, _ => show some _ = some (factsF _ _ _ _); unfold factsF; rw [if_neg (by decide), if_pos (by decide), hV]; rfl
  | 44, _ => show some _ = some (factsF _ _ _ _); unfold factsF; rw [if_neg (by decide), if_pos (by decide), hV]; rfl
  | 45, _ => show some _ = some (factsF _ _ _ _); unfold factsF; rw [if_neg (by decide), if_pos (by decide), hV]; rfl
  | 46, _ => show some _ = some (factsF _ _ _ _); unfold factsF; rw [if_neg (by decide), if_pos (by decide), hV]; rfl
  | 47, _ => show some _ = some (factsF _ _ _ _); unfold factsF; rw [if_neg (by decide), if_pos (by decide), hV]; rfl
  | 48, _ => show some _ = some (factsF _ _ _ _); unfold factsF; rw [if_neg (by decide), if_pos (by decide), hV]; rfl
  | 49, _ => show some _ = some (factsF _ _ _ _); unfold factsF; rw [if_neg (by decide), if_pos (by decide), hV]; rfl
  | 50, _ => rfl
  | 51, _ => rfl
  | n + 52, h => exact absurd h (by omega)
theorem facts_start (V1 : World) (FI : Nat → Int) (FT : Nat → ByteArray) (L : Nat → Nat) (X : Nat → Nat → ByteArray) :
    FactsIn V1 ((V1.alloc (.map #[] 0)).alloc (.cells (factsA V1.heap.size) 96)) V1.heap.size FI FT L X 0 (fun _ => 0) (.slice none 0 0) 0 [] where
  row := by
    have := World.rowIs_alloc (V1.alloc (.map #[] 0)) (factsA V1.heap.size) 96 _ (factsA_at V1.heap.size (fun key => sv (gives FI FT (fun _ => 0) L 0 key eS)) (fun _ => rfl))
    rwa [show (V1.alloc (.map #[] 0)).heap.size = V1.heap.size + 1 from by simp] at this
  map := by
    have := (MapK.made V1).of_block (w' := (V1.alloc (.map #[] 0)).alloc (.cells (factsA V1.heap.size) 96)) (heap_alloc_old _ _ (by simp))
    refine (show (fun _ _ => none) = (fun (x : Int) (t : ByteArray) => if t.toList.isEmpty then none else gives FI FT (fun _ => 0) L 0 x t) from ?_) ▸ this
    funext x t
    by_cases e : t.toList.isEmpty = true
    · rw [if_pos e]
    · rw [if_neg e]; rfl
  vals := fun j hj => absurd hj (by omega)
  own := World.ownsRow_nil _ _ _ _
  apart := fun j hj => absurd hj (by omega)
  bel := ((Below.refl _ _).alloc (Nat.le_refl _) _).alloc (by simp) _
  big := by simp
  few := Nat.le_refl _
end Go.Proofs.Qxb6614456a

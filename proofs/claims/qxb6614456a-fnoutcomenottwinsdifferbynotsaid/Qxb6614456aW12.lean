/- My own work on the program: the outcome by whatever part missed. -/
import Derived.Test.Qxb6614456aW11
namespace Go.Proofs.Qxb6614456a
open Go.RowKit
set_option linter.unusedVariables false
set_option linter.unusedSimpArgs false

/-- What the outcome's parts are, by the part that missed. -/
def OutSpec (ms at' : Int) (p q r : Bool) (n m : Nat) (O K T : Nat → ByteArray) (I FI : Nat → Int) (FT : Nat → ByteArray) (L : Nat → Nat) (X : Nat → Nat → ByteArray)
    (app : Bool) (el op key : ByteArray) (l : Nat) (S : Nat → ByteArray) : Prop :=
  (ms = 0 ∧ app = true ∧ el = eS ∧ op = eS ∧ key = eS ∧ l = 0) ∨
  (ms = 1 ∧ app = false ∧ el = (if p then notName pS else pS) ∧ op = eS ∧ key = eS ∧ l = 0) ∨
  (ms = 2 ∧ app = false ∧ el = (if q then notName aS else aS) ∧ op = eS ∧ key = eS ∧ l = 0) ∨
  (ms = 3 ∧ app = false ∧ el = (if r then notName rS else rS) ∧ op = eS ∧ key = eS ∧ l = 0) ∨
  (ms = 4 ∧ ∃ a : Nat, at' = a ∧ a < n ∧ 0 ≤ I a ∧ I a < 49 ∧ (T a).size ≤ maxLen ∧ app = false ∧ el = cS ∧ op = O a ∧ key = K a ∧
    ((∃ j, lastF FI FT m (I a) (T a) = some j ∧ l = L j ∧ S = X j ∧ L j ≤ 1048576) ∨ (lastF FI FT m (I a) (T a) = none ∧ l = 0)))

theorem vals_of_row {w : World} {b l : Nat} {S : Nat → ByteArray} (h : w.rowIs b 112 (l * 14) (valF S)) : ValsAt w (some ⟨b, 0, none⟩) l S := by
  intro i hi
  refine ⟨b, rfl, ?_, fun j h0 hj => ?_⟩
  · have := h.cell (i := i * 14) (by omega)
    rw [this]
    unfold valF
    rw [if_pos (by omega), Nat.mul_div_cancel _ (by omega)]
  · have := h.cell (i := i * 14 + j) (by omega)
    rw [this]
    unfold valF
    rw [if_neg (by omega), show (i * 14 + j) % 14 = j from by omega]

theorem outcome_any {V1 wx : World} {Bs Bc : Nat} {ms at' : Int} {p q r : Bool} {n m : Nat} {O K T : Nat → ByteArray} {I FI : Nat → Int} {FT : Nat → ByteArray} {L : Nat → Nat} {X : Nat → Nat → ByteArray}
    {app : Bool} {el op key : ByteArray} {l : Nat} {S : Nat → ByteArray} {bl : Nat → Nat} {g : Value} {gn : Nat} {gx : List Value} {f : Nat → Value} (hn : n ≤ 1048576)
    (hs : OutSpec ms at' p q r n m O K T I FI FT L X app el op key l S)
    (h : FactsIn V1 wx V1.heap.size FI FT L X m bl g gn gx)
    (h3 : V1.cell? ⟨Bs, 3, none⟩ = some (.bool p)) (h7 : V1.cell? ⟨Bs, 7, none⟩ = some (.bool q)) (h12 : V1.cell? ⟨Bs, 12, none⟩ = some (.bool r))
    (h15 : V1.cell? ⟨Bs, 15, none⟩ = some (.slice (some ⟨Bc, 0, none⟩) n n)) (hr : V1.rowIs Bc 91 (n * 10) f) (hf : CondsIn I T O K n f) :
    Calls Try.prog 29 #[.pointer (some ⟨Bs, 0, none⟩), .int .u8 ms, .int .i64 at', .pointer (some ⟨V1.heap.size + 1, 0, none⟩)] wx (OutAll wx app el op key l S) := by
  have hls : Bs < V1.heap.size := World.block_lt_of_cell? V1 _ h3
  have hlc : Bc < V1.heap.size := hr.lt
  have g3 := (h.bel.cell hls).trans h3
  have g7 := (h.bel.cell hls).trans h7
  have g12 := (h.bel.cell hls).trans h12
  have g15 := (h.bel.cell hls).trans h15
  have gr := hr.of_block (h.bel.block _ hlc)
  rcases hs with ⟨rfl, rfl, rfl, rfl, rfl, rfl⟩ | ⟨rfl, rfl, rfl, rfl, rfl, rfl⟩ | ⟨rfl, rfl, rfl, rfl, rfl, rfl⟩ | ⟨rfl, rfl, rfl, rfl, rfl, rfl⟩ | ⟨rfl, a, rfl, ha, hi0, hi1, hT, rfl, rfl, rfl, rfl, hx⟩
  · exact (outcome_0 _ _ _ _).mono fun e w' hp => hp.all S
  · exact (outcome_1 _ _ _ _ _ g3).mono fun e w' hp => hp.all S
  · exact (outcome_2 _ _ _ _ _ g7).mono fun e w' hp => hp.all S
  · exact (outcome_3 _ _ _ _ _ g12).mono fun e w' hp => hp.all S
  · obtain ⟨f1, f2, f3, f4⟩ := hf a ha
    have c1 := (gr.cell (i := a * 10 + 3) (by omega)).trans (congrArg some f1)
    have c2 := (gr.cell (i := a * 10 + 4) (by omega)).trans (congrArg some f2)
    have c3 := (gr.cell (i := a * 10 + 8) (by omega)).trans (congrArg some f3)
    have c4 := (gr.cell (i := a * 10 + 9) (by omega)).trans (congrArg some f4)
    have hof : ∀ w1, Below wx.heap.size wx w1 → Calls Try.prog 33 #[.pointer (some ⟨V1.heap.size + 1, 0, none⟩), .agg #[.int .i64 (I a), .string (T a)]] w1 (OfPost w1 (sv (gives FI FT bl L m (I a) (T a)))) := by
      intro w1 hb
      have h1 := h.later hb
      by_cases he : (T a).toList.isEmpty = true
      · have heq := empty_of _ he
        obtain ⟨key, hkey, hk49⟩ : ∃ key : Nat, I a = key ∧ key < 49 := ⟨(I a).toNat, by omega, by omega⟩
        have c := h1.row.cell (i := 1 + key) (by omega)
        have e : factsF (fun key => sv (gives FI FT bl L m key eS)) g (.map (some V1.heap.size)) (1 + key) = sv (gives FI FT bl L m (I a) (T a)) := by
          unfold factsF
          rw [if_neg (by omega), if_pos (by omega), heq, hkey, Nat.add_sub_cancel_left]
        rw [e] at c
        rw [hkey] at c ⊢
        exact of_keyed _ _ _ _ _ c hk49 he
      · have he2 : (T a).toList.isEmpty = false := by simpa using he
        have c : w1.cell? ⟨V1.heap.size + 1, 51, none⟩ = some (.map (some V1.heap.size)) := h1.row.cell (i := 51) (by omega)
        have := of_tagged _ _ _ _ (I a) (T a) w1 c h1.map ⟨hi0, hi1⟩ hT he2
        simp only [he2] at this
        exact this
    rcases hx with ⟨j, hj, rfl, rfl, hL⟩ | ⟨hj, rfl⟩
    · have hjm := lastF_lt _ _ _ _ _ _ hj
      have hv := vals_of_row (h.vals j hjm).2
      have e : gives FI FT bl L m (I a) (T a) = some (bl j, L j) := by unfold gives; rw [hj]; rfl
      rw [e] at hof
      exact outcome_4 Bs _ Bc n a (L j) (I a) (T a) (O a) (K a) (some ⟨bl j, 0, none⟩) (L j) (X j) wx ha hn hL g15 c1 c2 c3 c4 hof hv
    · have e : gives FI FT bl L m (I a) (T a) = none := by unfold gives; rw [hj]; rfl
      rw [e] at hof
      exact outcome_4 Bs _ Bc n a 0 (I a) (T a) (O a) (K a) none 0 S wx ha hn (by omega) g15 c1 c2 c3 c4 hof (fun i hi => absurd hi (by omega))
end Go.Proofs.Qxb6614456a

/- My own work on the program: the law (by tools/gen_o16.py). -/
import Derived.Test.Qxb6614456aW15
namespace Go.Proofs.Qxb6614456a
open Go.RowKit
set_option linter.unusedVariables false
set_option linter.unusedSimpArgs false

def LawPost (W : World) (e : Ending) (w' : World) : Prop := e = .returned (.bool true) ∧ Below W.heap.size W w'

/-- What stands when an outcome has been laid into a cell of its own. -/
structure OutLaid (w W : World) (B : Nat) (app : Bool) (el op key : ByteArray) (va : Option Addr) (l vc : Nat) (S : Nat → ByteArray) : Prop where
  bel : Below w.heap.size w W
  c0 : W.cell? ⟨B, 0, none⟩ = some (.bool app)
  c1 : W.cell? ⟨B, 1, none⟩ = some (.string el)
  c2 : W.cell? ⟨B, 2, none⟩ = some (.string op)
  c3 : W.cell? ⟨B, 3, none⟩ = some (.string key)
  c4 : W.cell? ⟨B, 4, none⟩ = some (.slice va l vc)
  str : StrsAt W va l S
theorem OutLaid.mk' {w w1 : World} {app : Bool} {el op key : ByteArray} {va : Option Addr} {l vc : Nat} {S : Nat → ByteArray} (hs : StrsAt w1 va l S) (hb : Below w.heap.size w w1) :
    OutLaid w (w1.alloc (.cells #[.bool app, .string el, .string op, .string key, .slice va l vc] 43)) w1.heap.size app el op key va l vc S := by
  have h := rowIs_lit w1 #[.bool app, .string el, .string op, .string key, .slice va l vc] 43
  exact ⟨hb.alloc hb.size _, h.cell (i := 0) (by simp), h.cell (i := 1) (by simp), h.cell (i := 2) (by simp), h.cell (i := 3) (by simp), h.cell (i := 4) (by simp), hs.below ((Below.refl _ _).alloc (Nat.le_refl _) _) (Nat.le_refl _)⟩
theorem OutLaid.later {w W W' : World} {B : Nat} {app : Bool} {el op key : ByteArray} {va : Option Addr} {l vc : Nat} {S : Nat → ByteArray} (h : OutLaid w W B app el op key va l vc S) (hb : Below W.heap.size W W') : OutLaid w W' B app el op key va l vc S := by
  have hB : B < W.heap.size := World.block_lt_of_cell? W _ h.c0
  exact ⟨h.bel.trans (hb.mono h.bel.size), (hb.cell hB).trans h.c0, (hb.cell hB).trans h.c1, (hb.cell hB).trans h.c2, (hb.cell hB).trans h.c3, (hb.cell hB).trans h.c4, h.str.below hb (Nat.le_refl _)⟩

theorem spec4 {p q r : Bool} {n m : Nat} {O K T : Nat → ByteArray} {I FI : Nat → Int} {FT : Nat → ByteArray} {L : Nat → Nat} {X : Nat → Nat → ByteArray} {at1 : Nat} (hd : DomBd 4 at1 n m I FI) (hT : ∀ j, j < n → (T j).size ≤ maxLen) (hL : ∀ j, j < m → L j ≤ 1048576) (hat : at1 < n) :
    ∃ l S, OutSpec 4 at1 p q r n m O K T I FI FT L X false { data := #[67, 111, 110, 100, 105, 116, 105, 111, 110] } (O at1) (K at1) l S ∧ OutSpec 4 at1 (!p) (!q) (!r) n m O K T I FI FT L X false { data := #[67, 111, 110, 100, 105, 116, 105, 111, 110] } (O at1) (K at1) l S ∧ l ≤ 1048576 := by
  cases e : lastF FI FT m (I at1) (T at1) with
  | none =>
    have h : ∀ p q r, OutSpec 4 at1 p q r n m O K T I FI FT L X false { data := #[67, 111, 110, 100, 105, 116, 105, 111, 110] } (O at1) (K at1) 0 (X 0) := fun p q r =>
      .inr (.inr (.inr (.inr ⟨rfl, at1, rfl, hat, (hd.2.2.1 at1 hat).1, (hd.2.2.1 at1 hat).2, hT at1 hat, rfl, rfl, rfl, rfl, .inr ⟨e, rfl⟩⟩)))
    exact ⟨0, X 0, h _ _ _, h _ _ _, by omega⟩
  | some j =>
    have hj := hL j (lastF_lt _ _ _ _ _ _ e)
    have h : ∀ p q r, OutSpec 4 at1 p q r n m O K T I FI FT L X false { data := #[67, 111, 110, 100, 105, 116, 105, 111, 110] } (O at1) (K at1) (L j) (X j) := fun p q r =>
      .inr (.inr (.inr (.inr ⟨rfl, at1, rfl, hat, (hd.2.2.1 at1 hat).1, (hd.2.2.1 at1 hat).2, hT at1 hat, rfl, rfl, rfl, rfl, .inl ⟨j, e, rfl, rfl, hj⟩⟩)))
    exact ⟨L j, X j, h _ _ _, h _ _ _, hj⟩

set_option maxRecDepth 100000 in
set_option maxHeartbeats 4000000 in
theorem law_any (ms at' : Int) (p q r : Bool) (a : Option Addr) (n c : Nat) (O K T : Nat → ByteArray) (I : Nat → Int) (b : Option Addr) (m d : Nat) (FI : Nat → Int) (FT : Nat → ByteArray) (A : Nat → Option Addr) (L C : Nat → Nat) (X : Nat → Nat → ByteArray) (w : World)
    (h0 : 0 ≤ ms) (bn : n ≤ maxLen) (bm : m ≤ maxLen) (hc : CondsAt w a n O K T I) (hf : FactsAt w b m FI FT A L C X) (hT : ∀ j, j < n → (T j).size ≤ maxLen) (hFT : ∀ j, j < m → (FT j).size ≤ maxLen) :
    Calls Try.prog 6 #[.int .u8 ms, .int .i64 at', .bool p, .bool q, .bool r, .slice a n c, .slice b m d] w (LawPost w) := by
  have HZ : Hid (Calls Try.prog 17 #[.int .u8 ms, .int .i64 at', .bool p, .bool q, .bool r, .slice a n c, .slice b m d] w (ZzPost (ZzBd n m L) w)) := zzBytes_any ms at' p q r a n c O K T I b m d FI FT A L C X w bn bm hc hf
  have HC : Hid (CondsAt w a n O K T I) := hc
  have HF : Hid (FactsAt w b m FI FT A L C X) := hf
  have HT : Hid ((∀ j, j < n → (T j).size ≤ maxLen) ∧ ∀ j, j < m → (FT j).size ≤ maxLen) := ⟨hT, hFT⟩
  clear hc hf hT hFT bn bm
  go_enter Try.func6, Try.ntmps6
  go_wp2_with fail
  refine HZ.out.mono ?_
  rintro e w ⟨b1, rfl, rfl, hb⟩
  cases b1
  · go_wp2_with fail
    go_ret
    exact ⟨rfl, Below.refl _ _⟩
  have HZB : Hid (ZzBd n m L) := hb rfl
  have hn : n ≤ 1048576 := HZB.out.1
  have hm : m ≤ 1048576 := HZB.out.2.1
  clear hb HZ
  go_wp2_with fail
  refine (bytesFit_any a n c O K T I b m d FI FT A L C X w hn hm HZB.out.2.2 HC.out HF.out).mono ?_
  rintro e w ⟨b1, rfl, rfl, -⟩
  cases b1
  · go_wp2_with fail
    go_ret
    exact ⟨rfl, Below.refl _ _⟩
  go_wp2_with fail
  refine (domainFits_any ms at' a n c O K T I b m d FI FT A L C X w hn hm HC.out HF.out).mono ?_
  rintro e w ⟨b1, rfl, rfl, hb⟩
  cases b1
  · go_wp2_with fail
    go_ret
    exact ⟨rfl, Below.refl _ _⟩
  have HD : Hid (DomBd ms at' n m I FI) := hb rfl
  have h4 : ms ≤ 4 := HD.out.1
  clear hb
  rcases (show ms = 0 ∨ ms = 1 ∨ ms = 2 ∨ ms = 3 ∨ ms = 4 from by omega) with rfl | rfl | rfl | rfl | rfl
  · have hs1 : OutSpec 0 at' p q r n m O K T I FI FT L X true eS eS eS 0 (X 0) := by simp [OutSpec]
    have hs2 : OutSpec 0 at' (!p) (!q) (!r) n m O K T I FI FT L X true eS eS eS 0 (X 0) := by simp [OutSpec]
    have HS2 : Hid (OutSpec 0 at' (!p) (!q) (!r) n m O K T I FI FT L X true eS eS eS 0 (X 0)) := hs2
    clear hs2
    go_wp2_with fail
    refine (callOutcome_any 0 at' p q r a n c O K T I b m d FI FT A L C X w hn hm HZB.out.2.2 HC.out HF.out HD.out.2.2.2 HT.out.2 true eS eS eS 0 (X 0) hs1).mono ?_
    rintro e w1 ⟨va, vc, rfl, hst1, hx1, hb1⟩
    have HL1 : Hid (OutLaid w (w1.alloc (.cells #[.bool true, .string eS, .string eS, .string eS, .slice va 0 vc] 43)) w1.heap.size true eS eS eS va 0 vc (X 0)) := OutLaid.mk' hst1 hb1
    obtain ⟨W1, hW1⟩ : ∃ W1, W1 = w1.alloc (.cells #[.bool true, .string eS, .string eS, .string eS, .slice va 0 vc] 43) := ⟨_, rfl⟩
    rw [← hW1] at HL1
    clear hs1 hst1 hx1 hb1
    simp only [outV]
    go_wp2_with fail
    rw [← hW1]
    clear hW1
    refine (callOutcome_any 0 at' (!p) (!q) (!r) a n c O K T I b m d FI FT A L C X W1 hn hm HZB.out.2.2 (HC.out.below HL1.out.bel (Nat.le_refl _)) (HF.out.below HL1.out.bel (Nat.le_refl _)) HD.out.2.2.2 HT.out.2 true eS eS eS 0 (X 0) HS2.out).mono ?_
    rintro e w2 ⟨vb, vd, rfl, hst2, hx2, hb2⟩
    have HL2 : Hid (OutLaid W1 (w2.alloc (.cells #[.bool true, .string eS, .string eS, .string eS, .slice vb 0 vd] 43)) w2.heap.size true eS eS eS vb 0 vd (X 0)) := OutLaid.mk' hst2 hb2
    obtain ⟨W2, hW2⟩ : ∃ W2, W2 = w2.alloc (.cells #[.bool true, .string eS, .string eS, .string eS, .slice vb 0 vd] 43) := ⟨_, rfl⟩
    rw [← hW2] at HL2
    have HL3 := HL1.out.later HL2.out.bel
    have HL1 : Hid (OutLaid w W2 w1.heap.size true eS eS eS va 0 vc (X 0)) := HL3
    obtain ⟨-, a0, a1, a2, a3, a4, -⟩ := HL1.out
    obtain ⟨-, b0, b1, b2, b3, b4, -⟩ := HL2.out
    clear HS2 hst2 hx2 hb2 HL3
    simp only [outV]
    have hW2' : w2.alloc (.cells #[.bool true, .string eS, .string eS, .string eS, .slice vb 0 vd] 43) = W2 := hW2.symm
    clear hW2
    go_upto_region 9 with fail
    clear hW2'
    go_wp2_with fail
    refine (sameStrings_any va 0 vc vb vd (X 0) W2 (by omega) HL1.out.str HL2.out.str).mono ?_
    rintro e w3 ⟨rfl, hb3⟩
    have HLa := HL1.out.later hb3
    have HLb := HL2.out.later hb3
    obtain ⟨bela, -, a1, -, a3, -, -⟩ := HLa
    obtain ⟨-, -, b1, -, b3, -, -⟩ := HLb
    have HEND : Hid (Below w.heap.size w w3) := bela
    clear bela hb3
    go_wp2_with fail
    go_ret
    exact ⟨rfl, HEND.out⟩
  · obtain ⟨el1, el2, hs1, hs2, hnp0⟩ : ∃ el1 el2, OutSpec 1 at' p q r n m O K T I FI FT L X false el1 eS eS 0 (X 0) ∧ OutSpec 1 at' (!p) (!q) (!r) n m O K T I FI FT L X false el2 eS eS 0 (X 0) ∧ ∀ w, Calls Try.prog 22 #[.string el1, .string el2, .bool p, .string pS] w fun e w' => e = .returned (.bool true) ∧ w' = w :=
      ⟨if p then notName pS else pS, if p then pS else notName pS, by simp [OutSpec], by cases p <;> simp [OutSpec], fun w => notPair_any pS p w (by decide)⟩
    have hnp : ∀ w, Calls Try.prog 22 #[.string el1, .string el2, .bool p, .string { data := #[80, 114, 105, 110, 99, 105, 112, 97, 108] }] w fun e w' => e = .returned (.bool true) ∧ w' = w := hnp0
    clear hnp0
    have HS2 : Hid (OutSpec 1 at' (!p) (!q) (!r) n m O K T I FI FT L X false el2 eS eS 0 (X 0)) := hs2
    clear hs2
    go_wp2_with fail
    refine (callOutcome_any 1 at' p q r a n c O K T I b m d FI FT A L C X w hn hm HZB.out.2.2 HC.out HF.out HD.out.2.2.2 HT.out.2 false el1 eS eS 0 (X 0) hs1).mono ?_
    rintro e w1 ⟨va, vc, rfl, hst1, hx1, hb1⟩
    have HL1 : Hid (OutLaid w (w1.alloc (.cells #[.bool false, .string el1, .string eS, .string eS, .slice va 0 vc] 43)) w1.heap.size false el1 eS eS va 0 vc (X 0)) := OutLaid.mk' hst1 hb1
    obtain ⟨W1, hW1⟩ : ∃ W1, W1 = w1.alloc (.cells #[.bool false, .string el1, .string eS, .string eS, .slice va 0 vc] 43) := ⟨_, rfl⟩
    rw [← hW1] at HL1
    clear hs1 hst1 hx1 hb1
    simp only [outV]
    go_wp2_with fail
    rw [← hW1]
    clear hW1
    refine (callOutcome_any 1 at' (!p) (!q) (!r) a n c O K T I b m d FI FT A L C X W1 hn hm HZB.out.2.2 (HC.out.below HL1.out.bel (Nat.le_refl _)) (HF.out.below HL1.out.bel (Nat.le_refl _)) HD.out.2.2.2 HT.out.2 false el2 eS eS 0 (X 0) HS2.out).mono ?_
    rintro e w2 ⟨vb, vd, rfl, hst2, hx2, hb2⟩
    have HL2 : Hid (OutLaid W1 (w2.alloc (.cells #[.bool false, .string el2, .string eS, .string eS, .slice vb 0 vd] 43)) w2.heap.size false el2 eS eS vb 0 vd (X 0)) := OutLaid.mk' hst2 hb2
    obtain ⟨W2, hW2⟩ : ∃ W2, W2 = w2.alloc (.cells #[.bool false, .string el2, .string eS, .string eS, .slice vb 0 vd] 43) := ⟨_, rfl⟩
    rw [← hW2] at HL2
    have HL3 := HL1.out.later HL2.out.bel
    have HL1 : Hid (OutLaid w W2 w1.heap.size false el1 eS eS va 0 vc (X 0)) := HL3
    obtain ⟨-, a0, a1, a2, a3, a4, -⟩ := HL1.out
    obtain ⟨-, b0, b1, b2, b3, b4, -⟩ := HL2.out
    clear HS2 hst2 hx2 hb2 HL3
    simp only [outV]
    have hW2' : w2.alloc (.cells #[.bool false, .string el2, .string eS, .string eS, .slice vb 0 vd] 43) = W2 := hW2.symm
    clear hW2
    go_upto_region 9 with fail
    clear hW2'
    go_wp2_with fail
    refine (sameStrings_any va 0 vc vb vd (X 0) W2 (by omega) HL1.out.str HL2.out.str).mono ?_
    rintro e w3 ⟨rfl, hb3⟩
    have HLa := HL1.out.later hb3
    have HLb := HL2.out.later hb3
    obtain ⟨bela, -, a1, -, a3, -, -⟩ := HLa
    obtain ⟨-, -, b1, -, b3, -, -⟩ := HLb
    have HEND : Hid (Below w.heap.size w w3) := bela
    clear bela hb3
    go_wp2_with fail
    refine (hnp _).mono ?_
    rintro e w3 ⟨rfl, rfl⟩
    go_wp2_with fail
    go_ret
    exact ⟨rfl, HEND.out⟩
  · obtain ⟨el1, el2, hs1, hs2, hnp0⟩ : ∃ el1 el2, OutSpec 2 at' p q r n m O K T I FI FT L X false el1 eS eS 0 (X 0) ∧ OutSpec 2 at' (!p) (!q) (!r) n m O K T I FI FT L X false el2 eS eS 0 (X 0) ∧ ∀ w, Calls Try.prog 22 #[.string el1, .string el2, .bool q, .string aS] w fun e w' => e = .returned (.bool true) ∧ w' = w :=
      ⟨if q then notName aS else aS, if q then aS else notName aS, by simp [OutSpec], by cases q <;> simp [OutSpec], fun w => notPair_any aS q w (by decide)⟩
    have hnp : ∀ w, Calls Try.prog 22 #[.string el1, .string el2, .bool q, .string { data := #[65, 99, 116, 105, 111, 110] }] w fun e w' => e = .returned (.bool true) ∧ w' = w := hnp0
    clear hnp0
    have HS2 : Hid (OutSpec 2 at' (!p) (!q) (!r) n m O K T I FI FT L X false el2 eS eS 0 (X 0)) := hs2
    clear hs2
    go_wp2_with fail
    refine (callOutcome_any 2 at' p q r a n c O K T I b m d FI FT A L C X w hn hm HZB.out.2.2 HC.out HF.out HD.out.2.2.2 HT.out.2 false el1 eS eS 0 (X 0) hs1).mono ?_
    rintro e w1 ⟨va, vc, rfl, hst1, hx1, hb1⟩
    have HL1 : Hid (OutLaid w (w1.alloc (.cells #[.bool false, .string el1, .string eS, .string eS, .slice va 0 vc] 43)) w1.heap.size false el1 eS eS va 0 vc (X 0)) := OutLaid.mk' hst1 hb1
    obtain ⟨W1, hW1⟩ : ∃ W1, W1 = w1.alloc (.cells #[.bool false, .string el1, .string eS, .string eS, .slice va 0 vc] 43) := ⟨_, rfl⟩
    rw [← hW1] at HL1
    clear hs1 hst1 hx1 hb1
    simp only [outV]
    go_wp2_with fail
    rw [← hW1]
    clear hW1
    refine (callOutcome_any 2 at' (!p) (!q) (!r) a n c O K T I b m d FI FT A L C X W1 hn hm HZB.out.2.2 (HC.out.below HL1.out.bel (Nat.le_refl _)) (HF.out.below HL1.out.bel (Nat.le_refl _)) HD.out.2.2.2 HT.out.2 false el2 eS eS 0 (X 0) HS2.out).mono ?_
    rintro e w2 ⟨vb, vd, rfl, hst2, hx2, hb2⟩
    have HL2 : Hid (OutLaid W1 (w2.alloc (.cells #[.bool false, .string el2, .string eS, .string eS, .slice vb 0 vd] 43)) w2.heap.size false el2 eS eS vb 0 vd (X 0)) := OutLaid.mk' hst2 hb2
    obtain ⟨W2, hW2⟩ : ∃ W2, W2 = w2.alloc (.cells #[.bool false, .string el2, .string eS, .string eS, .slice vb 0 vd] 43) := ⟨_, rfl⟩
    rw [← hW2] at HL2
    have HL3 := HL1.out.later HL2.out.bel
    have HL1 : Hid (OutLaid w W2 w1.heap.size false el1 eS eS va 0 vc (X 0)) := HL3
    obtain ⟨-, a0, a1, a2, a3, a4, -⟩ := HL1.out
    obtain ⟨-, b0, b1, b2, b3, b4, -⟩ := HL2.out
    clear HS2 hst2 hx2 hb2 HL3
    simp only [outV]
    have hW2' : w2.alloc (.cells #[.bool false, .string el2, .string eS, .string eS, .slice vb 0 vd] 43) = W2 := hW2.symm
    clear hW2
    go_upto_region 9 with fail
    clear hW2'
    go_wp2_with fail
    refine (sameStrings_any va 0 vc vb vd (X 0) W2 (by omega) HL1.out.str HL2.out.str).mono ?_
    rintro e w3 ⟨rfl, hb3⟩
    have HLa := HL1.out.later hb3
    have HLb := HL2.out.later hb3
    obtain ⟨bela, -, a1, -, a3, -, -⟩ := HLa
    obtain ⟨-, -, b1, -, b3, -, -⟩ := HLb
    have HEND : Hid (Below w.heap.size w w3) := bela
    clear bela hb3
    go_wp2_with fail
    refine (hnp _).mono ?_
    rintro e w3 ⟨rfl, rfl⟩
    go_wp2_with fail
    go_ret
    exact ⟨rfl, HEND.out⟩
  · obtain ⟨el1, el2, hs1, hs2, hnp0⟩ : ∃ el1 el2, OutSpec 3 at' p q r n m O K T I FI FT L X false el1 eS eS 0 (X 0) ∧ OutSpec 3 at' (!p) (!q) (!r) n m O K T I FI FT L X false el2 eS eS 0 (X 0) ∧ ∀ w, Calls Try.prog 22 #[.string el1, .string el2, .bool r, .string rS] w fun e w' => e = .returned (.bool true) ∧ w' = w :=
      ⟨if r then notName rS else rS, if r then rS else notName rS, by simp [OutSpec], by cases r <;> simp [OutSpec], fun w => notPair_any rS r w (by decide)⟩
    have hnp : ∀ w, Calls Try.prog 22 #[.string el1, .string el2, .bool r, .string { data := #[82, 101, 115, 111, 117, 114, 99, 101] }] w fun e w' => e = .returned (.bool true) ∧ w' = w := hnp0
    clear hnp0
    have HS2 : Hid (OutSpec 3 at' (!p) (!q) (!r) n m O K T I FI FT L X false el2 eS eS 0 (X 0)) := hs2
    clear hs2
    go_wp2_with fail
    refine (callOutcome_any 3 at' p q r a n c O K T I b m d FI FT A L C X w hn hm HZB.out.2.2 HC.out HF.out HD.out.2.2.2 HT.out.2 false el1 eS eS 0 (X 0) hs1).mono ?_
    rintro e w1 ⟨va, vc, rfl, hst1, hx1, hb1⟩
    have HL1 : Hid (OutLaid w (w1.alloc (.cells #[.bool false, .string el1, .string eS, .string eS, .slice va 0 vc] 43)) w1.heap.size false el1 eS eS va 0 vc (X 0)) := OutLaid.mk' hst1 hb1
    obtain ⟨W1, hW1⟩ : ∃ W1, W1 = w1.alloc (.cells #[.bool false, .string el1, .string eS, .string eS, .slice va 0 vc] 43) := ⟨_, rfl⟩
    rw [← hW1] at HL1
    clear hs1 hst1 hx1 hb1
    simp only [outV]
    go_wp2_with fail
    rw [← hW1]
    clear hW1
    refine (callOutcome_any 3 at' (!p) (!q) (!r) a n c O K T I b m d FI FT A L C X W1 hn hm HZB.out.2.2 (HC.out.below HL1.out.bel (Nat.le_refl _)) (HF.out.below HL1.out.bel (Nat.le_refl _)) HD.out.2.2.2 HT.out.2 false el2 eS eS 0 (X 0) HS2.out).mono ?_
    rintro e w2 ⟨vb, vd, rfl, hst2, hx2, hb2⟩
    have HL2 : Hid (OutLaid W1 (w2.alloc (.cells #[.bool false, .string el2, .string eS, .string eS, .slice vb 0 vd] 43)) w2.heap.size false el2 eS eS vb 0 vd (X 0)) := OutLaid.mk' hst2 hb2
    obtain ⟨W2, hW2⟩ : ∃ W2, W2 = w2.alloc (.cells #[.bool false, .string el2, .string eS, .string eS, .slice vb 0 vd] 43) := ⟨_, rfl⟩
    rw [← hW2] at HL2
    have HL3 := HL1.out.later HL2.out.bel
    have HL1 : Hid (OutLaid w W2 w1.heap.size false el1 eS eS va 0 vc (X 0)) := HL3
    obtain ⟨-, a0, a1, a2, a3, a4, -⟩ := HL1.out
    obtain ⟨-, b0, b1, b2, b3, b4, -⟩ := HL2.out
    clear HS2 hst2 hx2 hb2 HL3
    simp only [outV]
    have hW2' : w2.alloc (.cells #[.bool false, .string el2, .string eS, .string eS, .slice vb 0 vd] 43) = W2 := hW2.symm
    clear hW2
    go_upto_region 9 with fail
    clear hW2'
    go_wp2_with fail
    refine (sameStrings_any va 0 vc vb vd (X 0) W2 (by omega) HL1.out.str HL2.out.str).mono ?_
    rintro e w3 ⟨rfl, hb3⟩
    have HLa := HL1.out.later hb3
    have HLb := HL2.out.later hb3
    obtain ⟨bela, -, a1, -, a3, -, -⟩ := HLa
    obtain ⟨-, -, b1, -, b3, -, -⟩ := HLb
    have HEND : Hid (Below w.heap.size w w3) := bela
    clear bela hb3
    go_wp2_with fail
    refine (hnp _).mono ?_
    rintro e w3 ⟨rfl, rfl⟩
    go_wp2_with fail
    go_ret
    exact ⟨rfl, HEND.out⟩
  · obtain ⟨at1, rfl, hat1⟩ : ∃ at1 : Nat, at' = at1 ∧ at1 < n := ⟨at'.toNat, by have := (HD.out.2.1 rfl); omega, by have := (HD.out.2.1 rfl); omega⟩
    obtain ⟨l, S, hs1, hs2, hl⟩ : ∃ l S, OutSpec 4 at1 p q r n m O K T I FI FT L X false { data := #[67, 111, 110, 100, 105, 116, 105, 111, 110] } (O at1) (K at1) l S ∧ OutSpec 4 at1 (!p) (!q) (!r) n m O K T I FI FT L X false { data := #[67, 111, 110, 100, 105, 116, 105, 111, 110] } (O at1) (K at1) l S ∧ l ≤ 1048576 := spec4 HD.out HT.out.1 HZB.out.2.2 hat1
    have HS2 : Hid (OutSpec 4 at1 (!p) (!q) (!r) n m O K T I FI FT L X false { data := #[67, 111, 110, 100, 105, 116, 105, 111, 110] } (O at1) (K at1) l S) := hs2
    clear hs2
    go_wp2_with fail
    refine (callOutcome_any 4 at1 p q r a n c O K T I b m d FI FT A L C X w hn hm HZB.out.2.2 HC.out HF.out HD.out.2.2.2 HT.out.2 false { data := #[67, 111, 110, 100, 105, 116, 105, 111, 110] } (O at1) (K at1) l S hs1).mono ?_
    rintro e w1 ⟨va, vc, rfl, hst1, hx1, hb1⟩
    have HL1 : Hid (OutLaid w (w1.alloc (.cells #[.bool false, .string { data := #[67, 111, 110, 100, 105, 116, 105, 111, 110] }, .string (O at1), .string (K at1), .slice va l vc] 43)) w1.heap.size false { data := #[67, 111, 110, 100, 105, 116, 105, 111, 110] } (O at1) (K at1) va l vc S) := OutLaid.mk' hst1 hb1
    obtain ⟨W1, hW1⟩ : ∃ W1, W1 = w1.alloc (.cells #[.bool false, .string { data := #[67, 111, 110, 100, 105, 116, 105, 111, 110] }, .string (O at1), .string (K at1), .slice va l vc] 43) := ⟨_, rfl⟩
    rw [← hW1] at HL1
    clear hs1 hst1 hx1 hb1
    simp only [outV]
    go_wp2_with fail
    rw [← hW1]
    clear hW1
    refine (callOutcome_any 4 at1 (!p) (!q) (!r) a n c O K T I b m d FI FT A L C X W1 hn hm HZB.out.2.2 (HC.out.below HL1.out.bel (Nat.le_refl _)) (HF.out.below HL1.out.bel (Nat.le_refl _)) HD.out.2.2.2 HT.out.2 false { data := #[67, 111, 110, 100, 105, 116, 105, 111, 110] } (O at1) (K at1) l S HS2.out).mono ?_
    rintro e w2 ⟨vb, vd, rfl, hst2, hx2, hb2⟩
    have HL2 : Hid (OutLaid W1 (w2.alloc (.cells #[.bool false, .string { data := #[67, 111, 110, 100, 105, 116, 105, 111, 110] }, .string (O at1), .string (K at1), .slice vb l vd] 43)) w2.heap.size false { data := #[67, 111, 110, 100, 105, 116, 105, 111, 110] } (O at1) (K at1) vb l vd S) := OutLaid.mk' hst2 hb2
    obtain ⟨W2, hW2⟩ : ∃ W2, W2 = w2.alloc (.cells #[.bool false, .string { data := #[67, 111, 110, 100, 105, 116, 105, 111, 110] }, .string (O at1), .string (K at1), .slice vb l vd] 43) := ⟨_, rfl⟩
    rw [← hW2] at HL2
    have HL3 := HL1.out.later HL2.out.bel
    have HL1 : Hid (OutLaid w W2 w1.heap.size false { data := #[67, 111, 110, 100, 105, 116, 105, 111, 110] } (O at1) (K at1) va l vc S) := HL3
    obtain ⟨-, a0, a1, a2, a3, a4, -⟩ := HL1.out
    obtain ⟨-, b0, b1, b2, b3, b4, -⟩ := HL2.out
    clear HS2 hst2 hx2 hb2 HL3
    simp only [outV]
    have hW2' : w2.alloc (.cells #[.bool false, .string { data := #[67, 111, 110, 100, 105, 116, 105, 111, 110] }, .string (O at1), .string (K at1), .slice vb l vd] 43) = W2 := hW2.symm
    clear hW2
    go_upto_region 9 with fail
    clear hW2'
    go_wp2_with fail
    refine (sameStrings_any va l vc vb vd S W2 (by omega) HL1.out.str HL2.out.str).mono ?_
    rintro e w3 ⟨rfl, hb3⟩
    have HLa := HL1.out.later hb3
    have HLb := HL2.out.later hb3
    obtain ⟨bela, -, a1, -, a3, -, -⟩ := HLa
    obtain ⟨-, -, b1, -, b3, -, -⟩ := HLb
    have HEND : Hid (Below w.heap.size w w3) := bela
    obtain ⟨x, o, rfl, -, g1, -, -⟩ := HC.out.below bela (Nat.le_refl _) at1 hat1
    clear bela hb3
    go_wp2_with fail
    go_quiet (fail)
    go_wp2_with fail
    go_ret
    exact ⟨rfl, HEND.out.trans ⟨rfl, rfl, rfl, Nat.le_refl _, fun _ _ => rfl⟩⟩
end Go.Proofs.Qxb6614456a

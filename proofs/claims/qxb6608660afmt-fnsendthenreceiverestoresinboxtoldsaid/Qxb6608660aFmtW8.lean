import Derived.Test.Qxb6608660aFmtW7
import Derived.Deep.RegionLaw
namespace Go.Proofs.Qxb6608660aFmt
open Go.RowKit

/-- Of what was there, the blocks of p alone may have turned. -/
structure Only (p : Nat → Prop) (w w' : World) : Prop where
  os : w'.os = w.os
  tape : w'.tape = w.tape
  output : w'.output = w.output
  size : w.heap.size ≤ w'.heap.size
  block : ∀ k, k < w.heap.size → ¬ p k → w'.heap[k]? = w.heap[k]?

theorem Only.refl (p : Nat → Prop) (w : World) : Only p w w := ⟨rfl, rfl, rfl, Nat.le_refl _, fun _ _ _ => rfl⟩
theorem Only.trans {p : Nat → Prop} {a b c : World} (h : Only p a b) (k : Only p b c) : Only p a c :=
  ⟨k.os.trans h.os, k.tape.trans h.tape, k.output.trans h.output, Nat.le_trans h.size k.size, fun i hi hp => (k.block i (Nat.lt_of_lt_of_le hi h.size) hp).trans (h.block i hi hp)⟩
theorem Only.mono {p q : Nat → Prop} {w w' : World} (h : Only p w w') (hpq : ∀ k, p k → q k) : Only q w w' :=
  ⟨h.os, h.tape, h.output, h.size, fun k hk hq => h.block k hk (fun hp => hq (hpq k hp))⟩
theorem Only.ofBelow {p : Nat → Prop} {w w' : World} (h : Below w.heap.size w w') : Only p w w' := ⟨h.os, h.tape, h.output, h.size, fun k hk _ => h.block k hk⟩
theorem Only.drew {p : Nat → Prop} {a w : World} (h : Only p a w) : Only p a w.drew := ⟨h.os, h.tape, h.output, h.size, h.block⟩
theorem Only.alloc {p : Nat → Prop} {a w : World} (h : Only p a w) (o : Obj) : Only p a (w.alloc o) :=
  h.trans (Only.ofBelow ((Below.refl _ _).alloc (Nat.le_refl _) o))
theorem Only.setCell {p : Nat → Prop} {a w : World} (h : Only p a w) {x : Addr} (hp : p x.block) (u : Value) : Only p a (w.setCell x u) :=
  h.trans ⟨rfl, rfl, rfl, by simp [World.setCell], fun k _ hk => Below.heap_setCell _ _ _ _ (fun e => hk (e ▸ hp))⟩
/-- A store into a block that was not there. -/
theorem Only.setNew {p : Nat → Prop} {a w : World} (h : Only p a w) {x : Addr} (hx : a.heap.size ≤ x.block) (u : Value) : Only p a (w.setCell x u) :=
  ⟨h.os, h.tape, h.output, by simpa [World.setCell] using h.size, fun k hk hp => (Below.heap_setCell _ _ _ _ (by omega)).trans (h.block k hk hp)⟩
theorem Only.below {p : Nat → Prop} {w w' : World} (h : Only p w w') {B : Nat} (hB : B ≤ w.heap.size) (hp : ∀ k, p k → B ≤ k) : Below B w w' :=
  ⟨h.os, h.tape, h.output, h.size, fun k hk => h.block k (by omega) (fun hpk => by have := hp k hpk; omega)⟩
theorem Only.cell {p : Nat → Prop} {w w' : World} (h : Only p w w') {x : Addr} (hx : x.block < w.heap.size) (hp : ¬ p x.block) : w'.cell? x = w.cell? x := World.cell?_of_block (w := w) (h.block _ hx hp)
theorem Only.setCells {p : Nat → Prop} {a : World} {b : Nat} (hp : p b) : ∀ (vs : List Value) (o : Nat) (w : World), Only p a w → Only p a (w.setCells b o vs)
  | [], _, _, h => h
  | v :: r, o, w, h => Only.setCells hp r (o + 1) (w.setCell ⟨b, o, none⟩ v) (h.setCell (x := ⟨b, o, none⟩) hp v)

theorem size_setCells (b : Nat) : ∀ (vs : List Value) (o : Nat) (w : World), (w.setCells b o vs).heap.size = w.heap.size
  | [], _, _ => rfl
  | v :: r, o, w => by rw [World.setCells, size_setCells b r]; simp [World.setCell]

theorem rowIs_setCells {b : Nat} {t : TypeId} {n : Nat} : ∀ (vs : List Value) (o : Nat) (w : World) (f : Nat → Value), w.rowIs b t n f →
    (w.setCells b o vs).rowIs b t n (fun c => if o ≤ c ∧ c < o + vs.length then vs.getD (c - o) undef else f c)
  | [], o, w, f, h => h.congr (fun c _ => by rw [if_neg (by simp)])
  | v :: r, o, w, f, h => by
    refine (rowIs_setCells r (o + 1) (w.setCell ⟨b, o, none⟩ v) _ (h.set o v)).congr (fun c _ => ?_)
    by_cases e : c = o
    · subst e
      rw [if_neg (by omega), if_pos rfl, if_pos (by simp)]
      simp
    · by_cases e2 : o + 1 ≤ c ∧ c < o + 1 + r.length
      · rw [if_pos e2, if_pos (by simp; omega), show c - o = (c - (o + 1)) + 1 by omega]
        simp
      · rw [if_neg e2, if_neg e, if_neg (by simp; omega)]

/-- What 'without' hands back and leaves. -/
def WoPost (w : World) (B : Nat) (t : TypeId) (n sz p i len : Nat) (f : Nat → Value) (e : Ending) (w' : World) : Prop :=
  ∃ ao cap', e = .returned (.slice ao (len - 1) cap') ∧ (0 < len - 1 → ao = some ⟨B, (if i = 0 then p + 1 else p) * sz, none⟩ ∧ (if i = 0 then p + 1 else p) + cap' = n ∧ len - 1 ≤ cap') ∧
    w'.rowIs B t (n * sz) (fun c => if 0 < i ∧ (p + i) * sz ≤ c ∧ c < (p + len - 1) * sz then f (c + sz) else f c) ∧ Only (· = B) w w' ∧ w'.heap.size = w.heap.size

set_option maxRecDepth 100000 in
set_option maxHeartbeats 400000 in
theorem without34_zero (B n p len cap : Nat) (f : Nat → Value) (w : World) (_hn : len ≤ 1048576) (hpc : p + cap = n) (hlc : len ≤ cap) (hl : 0 < len) (hrow : w.rowIs B 57 (n * 3) f) :
    Calls Tryf.prog 38 #[.slice (some ⟨B, p * 3, none⟩) len cap, .int .i64 0] w (WoPost w B 57 n 3 p 0 len f) := by
  have HW : Hid (w.rowIs B 57 (n * 3) (fun c => if 0 < 0 ∧ (p + 0) * 3 ≤ c ∧ c < (p + len - 1) * 3 then f (c + 3) else f c)) := hrow.congr (fun c _ => by simp)
  clear hrow
  by_cases h1 : cap = 1
  · have h1' : ¬ 0 < len - 1 := by omega
    go_enter Tryf.func38, Tryf.ntmps38
    go_wp2
    go_ret
    exact ⟨_, _, rfl, fun h => absurd h h1', HW.out, Only.refl _ _, rfl⟩
  · have h2 : p + 1 + (cap - 1) = n := by omega
    have h3 : len - 1 ≤ cap - 1 := by omega
    have h4 : p * 3 + 3 = (p + 1) * 3 := by omega
    have H4 : Hid (p * 3 + 3 = (p + 1) * 3) := h4
    clear h4
    go_enter Tryf.func38, Tryf.ntmps38
    go_wp2
    go_ret
    exact ⟨_, _, rfl, fun _ => ⟨by rw [if_pos rfl, H4.out], by rw [if_pos rfl]; exact h2, h3⟩, HW.out, Only.refl _ _, rfl⟩

set_option maxRecDepth 1000000 in
set_option maxHeartbeats 1600000 in
theorem without34_pos (B n p len cap i : Nat) (f : Nat → Value) (w : World) (hn : len ≤ 1048576) (hpc : p + cap = n) (hmx : cap ≤ maxLen) (hlc : len ≤ cap) (hi : 0 < i) (hil : i < len) (hrow : w.rowIs B 57 (n * 3) f) (h1c : ∀ c, (p + i + 1) * 3 ≤ c → c < (p + len) * 3 → (f c).oneCell' = true) :
    Calls Tryf.prog 38 #[.slice (some ⟨B, p * 3, none⟩) len cap, .int .i64 i] w (WoPost w B 57 n 3 p i len f) := by
  obtain ⟨i0, hi0, hz0, hz1, hz2⟩ := info_parts Tryf.info57
  obtain ⟨news, hnl, hng⟩ : ∃ news : List Value, news.length = (len - (i + 1)) * 3 ∧ ∀ j, j < (len - (i + 1)) * 3 → news[j]? = some (f ((p + i + 1) * 3 + j)) :=
    ⟨(List.range ((len - (i + 1)) * 3)).map (fun j => f ((p + i + 1) * 3 + j)), by simp, fun j hj => by simp [hj]⟩
  have hlen : p + len ≤ n := by omega
  obtain ⟨A, hA, hnews⟩ : ∃ A : Addr, (if cap = i + 1 then some (⟨B, p * 3, none⟩ : Addr) else some ⟨B, p * 3 + (i + 1) * 3, none⟩) = some A ∧ Hid (∀ j u, news[j]? = some u → w.drew.cell? (A.add j) = some u) := by
    by_cases h : cap = i + 1
    · refine ⟨⟨B, p * 3, none⟩, by simp [h], fun j u hu => ?_⟩
      have h0 : news.length = 0 := by rw [hnl, show len - (i + 1) = 0 by omega]
      rw [List.length_eq_zero_iff.1 h0] at hu
      simp at hu
    · refine ⟨⟨B, p * 3 + (i + 1) * 3, none⟩, by simp [h], fun j u hu => ?_⟩
      have hj : j < (len - (i + 1)) * 3 := by
        have := (List.getElem?_eq_some_iff.1 hu).1
        omega
      rw [hng j hj] at hu
      rw [Addr.add_lit, ← hu, show p * 3 + (i + 1) * 3 + j = (p + i + 1) * 3 + j by omega]
      exact hrow.cell (by omega)
  have s2 : Hid (∀ u ∈ news, u.oneCell' = true) := by
    intro u hu
    obtain ⟨j, hj, rfl⟩ := List.mem_iff_getElem.1 hu
    have h2 := hng j (by omega)
    rw [List.getElem?_eq_getElem hj] at h2
    rw [Option.some.inj h2]
    exact h1c _ (by omega) (by omega)
  have s3 : Hid (∀ j, j < news.length → (w.drew.cell? ⟨B, p * 3 + i * 3 + j, none⟩).isSome = true ∧ w.drew.frozen? ⟨B, p * 3 + i * 3 + j, none⟩ = false) := by
    intro j hj
    refine ⟨?_, hrow.frozen _⟩
    have : w.cell? ⟨B, p * 3 + i * 3 + j, none⟩ = some (f (p * 3 + i * 3 + j)) := hrow.cell (by omega)
    show (w.cell? _).isSome = true
    rw [this]; rfl
  have HL : Hid (news.length = (len - (i + 1)) * 3) := hnl
  have HN : Hid ((w.drew.setCells B (p * 3 + i * 3) news).rowIs B 57 (n * 3) (fun c => if 0 < i ∧ (p + i) * 3 ≤ c ∧ c < (p + len - 1) * 3 then f (c + 3) else f c)) := by
    refine (rowIs_setCells news (p * 3 + i * 3) w.drew f hrow.drew).congr (fun c _ => ?_)
    by_cases e : (p + i) * 3 ≤ c ∧ c < (p + len - 1) * 3
    · rw [if_pos (by rw [hnl]; omega), if_pos ⟨hi, e⟩]
      have h2 := hng (c - (p * 3 + i * 3)) (by omega)
      rw [List.getD_eq_getElem?_getD, h2]
      show f _ = f _
      congr 1
      omega
    · rw [if_neg (by rw [hnl]; omega), if_neg (by omega)]
  have HO : Hid (Only (· = B) w (w.drew.setCells B (p * 3 + i * 3) news)) := Only.setCells (p := (· = B)) rfl _ _ _ (Only.refl _ w).drew
  have HZ : Hid ((w.drew.setCells B (p * 3 + i * 3) news).heap.size = w.heap.size) := by
    exact size_setCells _ _ _ _
  have hic : i ≤ cap := by omega
  have hcm : (cap : Int) ≤ 9223372036854775807 := by have := hmx; unfold maxLen at this; omega
  have hwr : IntKind.i64.wrap ((i : Int) + 1) = (i : Int) + 1 := by rw [IntKind.wrap_i64]; omega
  have hp0 : (0 : Int) ≤ (i : Int) + 1 := by omega
  have hp1 : (i : Int) + 1 ≤ (len : Int) := by omega
  have hp2 : ((i : Int) + 1).toNat = i + 1 := by omega
  have hzi : ((i : Int) == 0) = false := by rw [beq_eq_false_iff_ne]; omega
  have HE : Hid (i + (len - (i + 1)) = len - 1) := by show _ = _; omega
  clear hrow hnl hng h1c
  go_enter Tryf.func38, Tryf.ntmps38
  go_wp2_with fail
  go_region_law (refine step_append_room rfl (.tmp 11) (.tmp 15) 40 rfl 57 i0 3 Tryf.underlying40 hi0 hz1 B (p * 3) i cap (by simp [Act.eval, Act.put]) A (len - (i + 1)) (cap - (i + 1)) news (by simp [Act.eval, Act.put]) HL.out hnews.out s2.out (by omega) s3.out ?_)
  go_wp2
  go_ret
  exact ⟨_, _, by rw [← HE.out]; rfl, fun _ => ⟨by rw [if_neg (by omega)], by rw [if_neg (by omega)]; exact hpc, by omega⟩, HN.out, HO.out, HZ.out⟩

set_option maxRecDepth 100000 in
set_option maxHeartbeats 400000 in
theorem without35_zero (B n p len cap : Nat) (f : Nat → Value) (w : World) (_hn : len ≤ 1048576) (hpc : p + cap = n) (hlc : len ≤ cap) (hl : 0 < len) (hrow : w.rowIs B 52 (n * 2) f) :
    Calls Tryf.prog 39 #[.slice (some ⟨B, p * 2, none⟩) len cap, .int .i64 0] w (WoPost w B 52 n 2 p 0 len f) := by
  have HW : Hid (w.rowIs B 52 (n * 2) (fun c => if 0 < 0 ∧ (p + 0) * 2 ≤ c ∧ c < (p + len - 1) * 2 then f (c + 2) else f c)) := hrow.congr (fun c _ => by simp)
  clear hrow
  by_cases h1 : cap = 1
  · have h1' : ¬ 0 < len - 1 := by omega
    go_enter Tryf.func39, Tryf.ntmps39
    go_wp2
    go_ret
    exact ⟨_, _, rfl, fun h => absurd h h1', HW.out, Only.refl _ _, rfl⟩
  · have h2 : p + 1 + (cap - 1) = n := by omega
    have h3 : len - 1 ≤ cap - 1 := by omega
    have h4 : p * 2 + 2 = (p + 1) * 2 := by omega
    have H4 : Hid (p * 2 + 2 = (p + 1) * 2) := h4
    clear h4
    go_enter Tryf.func39, Tryf.ntmps39
    go_wp2
    go_ret
    exact ⟨_, _, rfl, fun _ => ⟨by rw [if_pos rfl, H4.out], by rw [if_pos rfl]; exact h2, h3⟩, HW.out, Only.refl _ _, rfl⟩

set_option maxRecDepth 1000000 in
set_option maxHeartbeats 1600000 in
theorem without35_pos (B n p len cap i : Nat) (f : Nat → Value) (w : World) (hn : len ≤ 1048576) (hpc : p + cap = n) (hmx : cap ≤ maxLen) (hlc : len ≤ cap) (hi : 0 < i) (hil : i < len) (hrow : w.rowIs B 52 (n * 2) f) (h1c : ∀ c, (p + i + 1) * 2 ≤ c → c < (p + len) * 2 → (f c).oneCell' = true) :
    Calls Tryf.prog 39 #[.slice (some ⟨B, p * 2, none⟩) len cap, .int .i64 i] w (WoPost w B 52 n 2 p i len f) := by
  obtain ⟨i0, hi0, hz0, hz1, hz2⟩ := info_parts Tryf.info52
  obtain ⟨news, hnl, hng⟩ : ∃ news : List Value, news.length = (len - (i + 1)) * 2 ∧ ∀ j, j < (len - (i + 1)) * 2 → news[j]? = some (f ((p + i + 1) * 2 + j)) :=
    ⟨(List.range ((len - (i + 1)) * 2)).map (fun j => f ((p + i + 1) * 2 + j)), by simp, fun j hj => by simp [hj]⟩
  have hlen : p + len ≤ n := by omega
  obtain ⟨A, hA, hnews⟩ : ∃ A : Addr, (if cap = i + 1 then some (⟨B, p * 2, none⟩ : Addr) else some ⟨B, p * 2 + (i + 1) * 2, none⟩) = some A ∧ Hid (∀ j u, news[j]? = some u → w.drew.cell? (A.add j) = some u) := by
    by_cases h : cap = i + 1
    · refine ⟨⟨B, p * 2, none⟩, by simp [h], fun j u hu => ?_⟩
      have h0 : news.length = 0 := by rw [hnl, show len - (i + 1) = 0 by omega]
      rw [List.length_eq_zero_iff.1 h0] at hu
      simp at hu
    · refine ⟨⟨B, p * 2 + (i + 1) * 2, none⟩, by simp [h], fun j u hu => ?_⟩
      have hj : j < (len - (i + 1)) * 2 := by
        have := (List.getElem?_eq_some_iff.1 hu).1
        omega
      rw [hng j hj] at hu
      rw [Addr.add_lit, ← hu, show p * 2 + (i + 1) * 2 + j = (p + i + 1) * 2 + j by omega]
      exact hrow.cell (by omega)
  have s2 : Hid (∀ u ∈ news, u.oneCell' = true) := by
    intro u hu
    obtain ⟨j, hj, rfl⟩ := List.mem_iff_getElem.1 hu
    have h2 := hng j (by omega)
    rw [List.getElem?_eq_getElem hj] at h2
    rw [Option.some.inj h2]
    exact h1c _ (by omega) (by omega)
  have s3 : Hid (∀ j, j < news.length → (w.drew.cell? ⟨B, p * 2 + i * 2 + j, none⟩).isSome = true ∧ w.drew.frozen? ⟨B, p * 2 + i * 2 + j, none⟩ = false) := by
    intro j hj
    refine ⟨?_, hrow.frozen _⟩
    have : w.cell? ⟨B, p * 2 + i * 2 + j, none⟩ = some (f (p * 2 + i * 2 + j)) := hrow.cell (by omega)
    show (w.cell? _).isSome = true
    rw [this]; rfl
  have HL : Hid (news.length = (len - (i + 1)) * 2) := hnl
  have HN : Hid ((w.drew.setCells B (p * 2 + i * 2) news).rowIs B 52 (n * 2) (fun c => if 0 < i ∧ (p + i) * 2 ≤ c ∧ c < (p + len - 1) * 2 then f (c + 2) else f c)) := by
    refine (rowIs_setCells news (p * 2 + i * 2) w.drew f hrow.drew).congr (fun c _ => ?_)
    by_cases e : (p + i) * 2 ≤ c ∧ c < (p + len - 1) * 2
    · rw [if_pos (by rw [hnl]; omega), if_pos ⟨hi, e⟩]
      have h2 := hng (c - (p * 2 + i * 2)) (by omega)
      rw [List.getD_eq_getElem?_getD, h2]
      show f _ = f _
      congr 1
      omega
    · rw [if_neg (by rw [hnl]; omega), if_neg (by omega)]
  have HO : Hid (Only (· = B) w (w.drew.setCells B (p * 2 + i * 2) news)) := Only.setCells (p := (· = B)) rfl _ _ _ (Only.refl _ w).drew
  have HZ : Hid ((w.drew.setCells B (p * 2 + i * 2) news).heap.size = w.heap.size) := by
    exact size_setCells _ _ _ _
  have hic : i ≤ cap := by omega
  have hcm : (cap : Int) ≤ 9223372036854775807 := by have := hmx; unfold maxLen at this; omega
  have hwr : IntKind.i64.wrap ((i : Int) + 1) = (i : Int) + 1 := by rw [IntKind.wrap_i64]; omega
  have hp0 : (0 : Int) ≤ (i : Int) + 1 := by omega
  have hp1 : (i : Int) + 1 ≤ (len : Int) := by omega
  have hp2 : ((i : Int) + 1).toNat = i + 1 := by omega
  have hzi : ((i : Int) == 0) = false := by rw [beq_eq_false_iff_ne]; omega
  have HE : Hid (i + (len - (i + 1)) = len - 1) := by show _ = _; omega
  clear hrow hnl hng h1c
  go_enter Tryf.func39, Tryf.ntmps39
  go_wp2_with fail
  go_region_law (refine step_append_room rfl (.tmp 11) (.tmp 15) 47 rfl 52 i0 2 Tryf.underlying47 hi0 hz1 B (p * 2) i cap (by simp [Act.eval, Act.put]) A (len - (i + 1)) (cap - (i + 1)) news (by simp [Act.eval, Act.put]) HL.out hnews.out s2.out (by omega) s3.out ?_)
  go_wp2
  go_ret
  exact ⟨_, _, by rw [← HE.out]; rfl, fun _ => ⟨by rw [if_neg (by omega)], by rw [if_neg (by omega)]; exact hpc, by omega⟩, HN.out, HO.out, HZ.out⟩

end Go.Proofs.Qxb6608660aFmt

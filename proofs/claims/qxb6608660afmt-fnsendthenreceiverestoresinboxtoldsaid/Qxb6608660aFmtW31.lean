/- My own work on the program: the last message received again. -/
import Derived.Test.Qxb6608660aFmtW25
import Derived.Test.Qxb6608660aFmtW30
namespace Go.Proofs.Qxb6608660aFmt
open Go.RowKit
set_option linter.unusedSimpArgs false
set_option linter.unusedVariables false

/-- A row of the program's own by its content. -/
theorem own_row {w : World} {base : Nat} {e : TypeId} {s : Nat} {v : Value} {n : Nat} {xs : List Value} (h : w.ownsRow base e s v n xs) (hn : 0 < n) :
    ∃ g cap f, v = .slice (some ⟨g, 0, none⟩) n cap ∧ w.rowIs g e (cap * s) f ∧ n ≤ cap ∧ cap ≤ maxLen ∧ ∀ i u, xs[i]? = some u → f i = u := by
  rcases h.2 with ⟨_, rfl⟩ | ⟨g, cap, cur, rfl, _, hg, hnc, hm, hsz, ht⟩
  · omega
  · refine ⟨g, cap, fun i => cur.getD i (.bool false), rfl, ⟨cur, hg, hsz, fun i hi => ?_⟩, hnc, hm, fun i u hu => ?_⟩
    · simp [hsz, hi]
    · rw [← ht] at hu
      have hl : i < n * s := by
        have := (List.getElem?_eq_some_iff.1 hu).1
        simp at this
        omega
      rw [List.getElem?_take_of_lt hl] at hu
      simp at hu
      simp [hu]

theorem mList_at (n : Nat) (F T : Nat → ByteArray) (Q : Nat → Int) {i : Nat} (h : i < n) : MsgAt (mList n F T Q) i (F i) (T i) (Q i) := by
  unfold MsgAt mList
  refine ⟨?_, ?_, ?_⟩
  · rw [List.getElem?_map, List.getElem?_range (by omega)]; simp [mcell0]
  · rw [List.getElem?_map, List.getElem?_range (by omega)]; simp [mcell1]
  · rw [List.getElem?_map, List.getElem?_range (by omega)]; simp [mcell2]
theorem mList_len (n : Nat) (F T : Nat → ByteArray) (Q : Nat → Int) : (mList n F T Q).length = n * 3 := by simp [mList]
theorem sList_len (n : Nat) (A : Nat → Option Addr) (L C : Nat → Nat) (N : Nat → Int) : (sList n A L C N).length = n * 2 := by simp [sList]
theorem sList_at (n : Nat) (A : Nat → Option Addr) (L C : Nat → Nat) (N : Nat → Int) {i : Nat} (h : i < n) : (sList n A L C N)[i * 2]? = some (.slice (A i) (L i) (C i)) ∧ (sList n A L C N)[i * 2 + 1]? = some (.int .i64 (N i)) := by
  unfold sList
  refine ⟨?_, ?_⟩
  · rw [List.getElem?_map, List.getElem?_range (by omega)]; simp [scell0]
  · rw [List.getElem?_map, List.getElem?_range (by omega)]; simp [scell1]

/-- What the law reads behind the receive. -/
structure Fin3 (V : World) (N Bn Bsys fr rr : Nat) (nb : Nat → Nat) (S : Nat → ByteArray) (tr : Bool) (tN : ByteArray) (q : Int) (np : Nat) (FP TP : Nat → ByteArray) (QP : Nat → Int) (LS : Nat → Nat) (ZS : Nat → Nat → Int) (MS : Nat → Int) (nB : Nat) (FB TB : Nat → ByteArray) (QB : Nat → Int) : Prop where
  nrow : ∀ j, j < N → V.cell? ⟨Bn, j, none⟩ = some (.pointer (some ⟨nb j, 0, none⟩))
  inb : ∃ ao c, V.cell? ⟨nb rr, 3, none⟩ = some (.slice ao np c) ∧ ∀ i, i < np → ∃ g, ao = some ⟨g, 0, none⟩ ∧ MsgIn V g i (FP i) (TP i) (QP i)
  stm : ∃ so c, V.cell? ⟨nb rr, 4, none⟩ = some (.slice so (if tr then np else 0) c) ∧ (tr = true → ∀ i, i < np → ∃ g A C, so = some ⟨g, 0, none⟩ ∧ V.cell? ⟨g, i * 2, none⟩ = some (.slice A (LS i) C) ∧ V.cell? ⟨g, i * 2 + 1, none⟩ = some (.int .i64 (MS i)) ∧ IntsAt V A (LS i) (ZS i))
  oth : ∀ j, j < N → j ≠ rr → (∃ a c, V.cell? ⟨nb j, 3, none⟩ = some (.slice a 0 c)) ∧ ∃ a c, V.cell? ⟨nb j, 4, none⟩ = some (.slice a 0 c)
  out : ∃ g c, V.cell? ⟨Bsys, 9, none⟩ = some (.slice (some ⟨g, 0, none⟩) (nB + 1) c) ∧ (∀ i, i < nB → MsgIn V g i (FB i) (TB i) (QB i)) ∧ MsgIn V g nB (S fr) tN q
theorem Fin3.below {V W : World} {N Bn Bsys fr rr : Nat} {nb : Nat → Nat} {S : Nat → ByteArray} {tr : Bool} {tN : ByteArray} {q : Int} {np : Nat} {FP TP : Nat → ByteArray} {QP : Nat → Int} {LS : Nat → Nat} {ZS : Nat → Nat → Int} {MS : Nat → Int} {nB : Nat} {FB TB : Nat → ByteArray} {QB : Nat → Int}
    (h : Fin3 V N Bn Bsys fr rr nb S tr tN q np FP TP QP LS ZS MS nB FB TB QB) (hb : Below V.heap.size V W) : Fin3 W N Bn Bsys fr rr nb S tr tN q np FP TP QP LS ZS MS nB FB TB QB where
  nrow := fun j hj => cell_below hb (h.nrow j hj)
  inb := by
    obtain ⟨ao, c, e, h1⟩ := h.inb
    refine ⟨ao, c, cell_below hb e, fun i hi => ?_⟩
    obtain ⟨g, e, h2⟩ := h1 i hi
    exact ⟨g, e, h2.below hb⟩
  stm := by
    obtain ⟨so, c, e, h1⟩ := h.stm
    refine ⟨so, c, cell_below hb e, fun ht i hi => ?_⟩
    obtain ⟨g, A, C, e, h2, h3, h4⟩ := h1 ht i hi
    exact ⟨g, A, C, e, cell_below hb h2, cell_below hb h3, h4.below hb (Nat.le_refl _)⟩
  oth := fun j hj hne => by
    obtain ⟨⟨a, c, e⟩, a', c', e'⟩ := h.oth j hj hne
    exact ⟨⟨a, c, cell_below hb e⟩, a', c', cell_below hb e'⟩
  out := by
    obtain ⟨g, c, e, h1, h2⟩ := h.out
    exact ⟨g, c, cell_below hb e, fun i hi => (h1 i hi).below hb, h2.below hb⟩

/-- What stands ahead of the receive: the rows behind the one Send. -/
structure Pre3 (B : Nat) (w0 V : World) (tg : Nat → Nat × Nat) (N Bx Bsys Bmap Bn fr rr : Nat) (nodes : Value) (nb : Nat → Nat) (S : Nat → ByteArray) (idx : ByteArray → Option Nat) (tr : Bool) (tp : Option Addr) (tN : ByteArray) (q : Int) (np : Nat) (FP TP : Nat → ByteArray) (QP : Nat → Int) (LS : Nat → Nat) (ZS : Nat → Nat → Int) (MS : Nat → Int) (nB : Nat) (FB TB : Nat → ByteArray) (QB : Nat → Int) (wl : Nat) (WZ : Nat → Int) (num : Int)
    (val : Nat → Value) (cnt : Nat → Nat) (cs : Nat → List Value) (f : Nat → Value) : Prop where
  sys : SysIn B w0 V tg N Bx Bsys Bmap fr nodes nb S idx tp val cnt cs
  hrr : rr < N
  row : V.rowIs Bn 44 N f
  ptr : ∀ j, j < N → f j = .pointer (some ⟨nb j, 0, none⟩)
  gb : (tg Bn).1 = 4
  c0 : cnt 0 = nB + 1 ∧ cs 0 = mList nB FB TB QB ++ msgCells (S fr) tN q
  c1 : cnt (1 + 2 * rr) = np + 1 ∧ cs (1 + 2 * rr) = mList np FP TP QP ++ msgCells (S fr) tN q
  c2 : if tr then cnt (2 + 2 * rr) = np + 1 ∧ ∃ A C b c, cs (2 + 2 * rr) = sList np A LS C MS ++ stCells b wl c num ∧ (∀ i, i < np → CInts V tg (A i) (LS i) (ZS i)) ∧ CInts V tg b wl WZ else cnt (2 + 2 * rr) = 0
  ot : ∀ j, j < N → j ≠ rr → cnt (1 + 2 * j) = 0 ∧ cnt (2 + 2 * j) = 0

/-- What the receive hands back, and what stands behind it. -/
def RecvPost (V : World) (N Bn Bsys fr rr : Nat) (nb : Nat → Nat) (S : Nat → ByteArray) (tr : Bool) (tN : ByteArray) (q : Int) (np : Nat) (FP TP : Nat → ByteArray) (QP : Nat → Int) (LS : Nat → Nat) (ZS : Nat → Nat → Int) (MS : Nat → Int) (nB : Nat) (FB TB : Nat → ByteArray) (QB : Nat → Int) (wl : Nat) (WZ : Nat → Int) (num : Int) (B : Nat) (w0 : World) (e : Ending) (w' : World) : Prop :=
  ∃ mb mo sa sl sc nu, e = .returned (.tuple #[.pointer (some ⟨mb, mo, none⟩), .agg #[.slice sa sl sc, .int .i64 nu]]) ∧
    w'.cell? ⟨mb, mo, none⟩ = some (.string (S fr)) ∧ w'.cell? ⟨mb, mo + 1, none⟩ = some (.string tN) ∧ w'.cell? ⟨mb, mo + 2, none⟩ = some (.iface 3 (.int .i64 q)) ∧
    (tr = true → sl = wl ∧ nu = num ∧ IntsAt w' sa wl WZ) ∧ (tr = false → sl = 0 ∧ nu = 0) ∧ Fin3 w' N Bn Bsys fr rr nb S tr tN q np FP TP QP LS ZS MS nB FB TB QB ∧ Below B w0 w'

set_option maxHeartbeats 1000000 in
theorem recv_any {B : Nat} {w0 V : World} {tg : Nat → Nat × Nat} {N Bx Bsys Bmap Bn fr rr : Nat} {nodes : Value} {nb : Nat → Nat} {S : Nat → ByteArray} {idx : ByteArray → Option Nat} {tr : Bool} {tp : Option Addr} {tN : ByteArray} {q : Int} {np : Nat} {FP TP : Nat → ByteArray} {QP : Nat → Int} {LS : Nat → Nat} {ZS : Nat → Nat → Int} {MS : Nat → Int} {nB : Nat} {FB TB : Nat → ByteArray} {QB : Nat → Int} {wl : Nat} {WZ : Nat → Int} {num : Int} {val : Nat → Value} {cnt : Nat → Nat} {cs : Nat → List Value} {f : Nat → Value} (h : Pre3 B w0 V tg N Bx Bsys Bmap Bn fr rr nodes nb S idx tr tp tN q np FP TP QP LS ZS MS nB FB TB QB wl WZ num val cnt cs f) (hnp : np ≤ 4096) (hwl : wl ≤ 1048576) :
    Calls Tryf.prog 18 #[.pointer (some ⟨nb rr, 0, none⟩), .int .i64 np] V (RecvPost V N Bn Bsys fr rr nb S tr tN q np FP TP QP LS ZS MS nB FB TB QB wl WZ num B w0) := by
  have hrr := h.hrr
  have h1 := h.sys.rows (1 + 2 * rr) (by omega)
  rw [rty1, rsz1, h.c1.1, h.c1.2] at h1
  obtain ⟨Bm, cM, fm, hv1, hrm, hc1, hm1, hf1⟩ := own_row h1 (by omega)
  have hgm : tg Bm = (6, 1 + 2 * rr) := h.sys.gr (1 + 2 * rr) (by omega) Bm (by rw [hv1]; rfl)
  have hgn := h.sys.gn rr hrr
  have hnode := h.sys.node rr hrr
  rw [hv1] at hnode
  have hnew : MsgAt (mList np FP TP QP ++ msgCells (S fr) tN q) np (S fr) tN q := MsgAt.new (mList_len _ _ _ _)
  have hnm : nb rr ≠ Bm := fun e => by rw [e, hgm] at hgn; cases hgn
  -- what a change of these blocks alone leaves
  have hlow : ∀ b, (tg b).1 = 5 ∨ (tg b).1 = 6 → B ≤ b := fun b e => by
    rcases Nat.lt_or_ge b B with hb | hb
    · have := h.sys.low b hb; omega
    · exact hb
  have key : ∀ (Bs cS : Nat) (g : Nat → Value) (ca : Option Addr) (cl cc : Nat) (nu : Int) (e : Ending) (w' : World), (tr = true → tg Bs = (6, 2 + 2 * rr)) → LastPost V (nb rr) Bm Bs tr (S rr) rr np cM cS fm g (S fr) tN q ca cl cc nu e w' →
      (tr = true → cl = wl ∧ nu = num ∧ CInts V tg ca wl WZ ∧ ∃ (A : Nat → Option Addr) (C : Nat → Nat), (∀ i, i < np → CInts V tg (A i) (LS i) (ZS i)) ∧ ∀ i, i < np → g (i * 2) = .slice (A i) (LS i) (C i) ∧ g (i * 2 + 1) = .int .i64 (MS i)) → (tr = true → np + 1 ≤ cS) →
      RecvPost V N Bn Bsys fr rr nb S tr tN q np FP TP QP LS ZS MS nB FB TB QB wl WZ num B w0 e w' := by
    intro Bs cS g ca cl cc nu e w' hgs hp htt hcs
    obtain ⟨mb, mo, sg, ao, cap', sv', rfl, d0, d1, d2, htr, hpl, hN, hao, hM, hT, hU, hO⟩ := hp
    have hbl : ∀ b, b < V.heap.size → (tg b).1 ≠ 5 → (tg b).1 ≠ 6 → w'.heap[b]? = V.heap[b]? := fun b hb a5 a6 => hO.block b hb (fun e => by
      rcases e with rfl | rfl | ⟨ht, rfl⟩
      · rw [hgn] at a5; exact a5 rfl
      · rw [hgm] at a6; exact a6 rfl
      · rw [hgs ht] at a6; exact a6 rfl)
    have hci : ∀ {a : Option Addr} {n : Nat} {Z : Nat → Int}, CInts V tg a n Z → IntsAt w' a n Z := fun hc i hi => by
      obtain ⟨x, o, e, hx, ht⟩ := hc i hi
      have hl : x < V.heap.size := World.block_lt_of_cell? V _ hx
      exact ⟨x, o, e, (World.cell?_of_block (a := ⟨x, o + i, none⟩) (hbl x hl (by rw [ht]; simp) (by rw [ht]; simp))).trans hx⟩
    have hbel : Below B w0 w' := h.sys.bel.trans (hO.below h.sys.big (fun b e => by
      rcases e with rfl | rfl | ⟨ht, rfl⟩
      · exact hlow _ (by rw [hgn]; exact .inl rfl)
      · exact hlow _ (by rw [hgm]; exact .inr rfl)
      · exact hlow _ (by rw [hgs ht]; exact .inr rfl)))
    have hsysrow : w'.rowIs Bsys 93 26 (sysF nodes (.map (some Bmap)) (.pointer tp) (val 0)) := h.sys.sys.of_block (hbl _ h.sys.sys.lt (by rw [h.sys.gs]; simp) (by rw [h.sys.gs]; simp))
    have hoth : ∀ j, j < N → j ≠ rr → w'.rowIs (nb j) 103 8 (nodeF (S j) j (val (1 + 2 * j)) (val (2 + 2 * j))) := fun j hj hne => (h.sys.node j hj).of_block (hO.block _ (h.sys.node j hj).lt (fun e => by
      have hj5 := h.sys.gn j hj
      rcases e with e | e | ⟨ht, e⟩
      · rw [e, hgn] at hj5; exact hne (by simpa using hj5.symm)
      · rw [e, hgm] at hj5; cases hj5
      · rw [e, hgs ht] at hj5; cases hj5))
    have hfin : Fin3 w' N Bn Bsys fr rr nb S tr tN q np FP TP QP LS ZS MS nB FB TB QB := by
      refine ⟨fun j hj => ?_, ?_, ?_, fun j hj hne => ?_, ?_⟩
      · have := (h.row.of_block (hbl _ h.row.lt (by rw [h.gb]; simp) (by rw [h.gb]; simp))).cell hj
        exact this.trans (congrArg some (h.ptr j hj))
      · refine ⟨ao, cap', hN.cell (i := 3) (by omega), fun i hi => ?_⟩
        obtain rfl := hao (by omega)
        have hm := (mList_at np FP TP QP hi).app (ys := msgCells (S fr) tN q)
        refine ⟨Bm, rfl, ?_, ?_, ?_⟩
        · exact (hM.cell (by omega)).trans (congrArg some (hf1 _ _ hm.1))
        · exact (hM.cell (by omega)).trans (congrArg some (hf1 _ _ hm.2.1))
        · exact (hM.cell (by omega)).trans (congrArg some (hf1 _ _ hm.2.2))
      · cases tr with
        | false =>
          obtain ⟨sa, sc, rfl⟩ := hU rfl
          exact ⟨sa, sc, hN.cell (i := 4) (by omega), fun e => by cases e⟩
        | true =>
          obtain ⟨so, sc', rfl, hso, hg⟩ := hT rfl
          obtain ⟨_, _, _, A, C, hA, hgv⟩ := htt rfl
          have hcs' := hcs rfl
          refine ⟨so, sc', hN.cell (i := 4) (by omega), fun _ i hi => ?_⟩
          obtain rfl := hso (by omega)
          exact ⟨Bs, A i, C i, rfl, (hg.cell (by omega)).trans (congrArg some (hgv i hi).1), (hg.cell (by omega)).trans (congrArg some (hgv i hi).2), hci (hA i hi)⟩
      · have hr := hoth j hj hne
        obtain ⟨a, c, e, _⟩ := own_slice (h.sys.rows (1 + 2 * j) (by omega))
        obtain ⟨a', c', e', _⟩ := own_slice (h.sys.rows (2 + 2 * j) (by omega))
        rw [(h.ot j hj hne).1] at e
        rw [(h.ot j hj hne).2] at e'
        refine ⟨⟨a, c, (hr.cell (i := 3) (by omega)).trans (congrArg some e)⟩, a', c', (hr.cell (i := 4) (by omega)).trans (congrArg some e')⟩
      · have hr := h.sys.rows 0 (by omega)
        rw [show rty 0 = 57 from rfl, show rsz 0 = 3 from rfl, h.c0.1, h.c0.2] at hr
        have hr' := own_only hr hO (fun g e e' => by
          have h6 := h.sys.gr 0 (by omega) g e
          rcases e' with rfl | rfl | ⟨ht, rfl⟩
          · rw [hgn] at h6; cases h6
          · rw [hgm] at h6; simp at h6 <;> omega
          · rw [hgs ht] at h6; simp at h6 <;> omega)
        obtain ⟨a, c, e, hg⟩ := own_slice hr'
        obtain ⟨g, rfl⟩ := hg (by omega)
        rw [e] at hr'
        refine ⟨g, c, (hsysrow.cell (i := 9) (by omega)).trans (congrArg some e), fun i hi => ((mList_at nB FB TB QB hi).app).in hr', (MsgAt.new (mList_len _ _ _ _)).in hr'⟩
    cases tr with
    | false =>
      have := hpl rfl
      subst this
      exact ⟨mb, mo, none, 0, 0, 0, rfl, d0, d1, d2, fun e => (by cases e), fun _ => ⟨rfl, rfl⟩, hfin, hbel⟩
    | true =>
      have := htr rfl
      subst this
      obtain ⟨rfl, rfl, hz, _⟩ := htt rfl
      exact ⟨mb, mo, ca, cl, cc, nu, rfl, d0, d1, d2, fun _ => ⟨rfl, rfl, hci hz⟩, fun e => (by cases e), hfin, hbel⟩
  have hc2 := h.c2
  cases tr with
  | false =>
    rw [if_neg (by simp)] at hc2
    have h2 := h.sys.rows (2 + 2 * rr) (by omega)
    obtain ⟨sa, sc, hsv, _⟩ := own_slice h2
    rw [hc2] at hsv
    refine (zzLast_any V (nb rr) Bm 0 false (S rr) rr np cM 0 fm (fun _ => .bool false) (val (2 + 2 * rr)) (S fr) tN q none 0 0 0 (by omega) hnm (fun e => by cases e) (fun e => by cases e) ⟨hnode, hrm, hc1, hm1, fun e => (by cases e), fun _ => ⟨sa, sc, hsv⟩⟩ (hf1 _ _ hnew.1) (hf1 _ _ hnew.2.1) (hf1 _ _ hnew.2.2) (fun e => by cases e) (fun e => by cases e)).mono fun e w' hp => ?_
    exact key 0 0 _ none 0 0 0 e w' (fun e => by cases e) hp (fun e => by cases e) (fun e => by cases e)
  | true =>
    rw [if_pos rfl] at hc2
    obtain ⟨hcn, A, C, b, c, hcs, hA, hb⟩ := hc2
    have h2 := h.sys.rows (2 + 2 * rr) (by omega)
    rw [rty2, rsz2, hcn, hcs] at h2
    obtain ⟨Bs, cS, g, hv2, hrs, hc3, hm3, hf2⟩ := own_row h2 (by omega)
    have hgs : tg Bs = (6, 2 + 2 * rr) := h.sys.gr (2 + 2 * rr) (by omega) Bs (by rw [hv2]; rfl)
    have hst0 : (sList np A LS C MS ++ stCells b wl c num)[np * 2]? = some (.slice b wl c) := get_new (i := 0) (sList_len _ _ _ _ _)
    have hst1 : (sList np A LS C MS ++ stCells b wl c num)[np * 2 + 1]? = some (.int .i64 num) := get_new (i := 1) (sList_len _ _ _ _ _)
    refine (zzLast_any V (nb rr) Bm Bs true (S rr) rr np cM cS fm g (val (2 + 2 * rr)) (S fr) tN q b wl c num (by omega) hnm (fun _ e => by rw [e, hgs] at hgn; cases hgn) (fun _ e => by rw [e, hgs] at hgm; simp at hgm <;> omega) ⟨hnode, hrm, hc1, hm1, fun _ => ⟨hv2, hrs, hc3, hm3⟩, fun e => by cases e⟩ (hf1 _ _ hnew.1) (hf1 _ _ hnew.2.1) (hf1 _ _ hnew.2.2) (fun _ => hf2 _ _ hst0) (fun _ => hf2 _ _ hst1)).mono fun e w' hp => ?_
    exact key Bs cS g b wl c num e w' (fun _ => hgs) hp (fun _ => ⟨rfl, rfl, hb, A, C, hA, fun i hi => ⟨hf2 _ _ (get_app (sList_at np A LS C MS hi).1), hf2 _ _ (get_app (sList_at np A LS C MS hi).2)⟩⟩) (fun _ => hc3)
end Go.Proofs.Qxb6608660aFmt

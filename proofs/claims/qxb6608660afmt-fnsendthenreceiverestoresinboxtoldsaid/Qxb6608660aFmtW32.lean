/- My own work on the program: what stands behind the one Send. -/
import Derived.Test.Qxb6608660aFmtW31
import Derived.Laws.Strings
namespace Go.Proofs.Qxb6608660aFmt
open Go.RowKit
set_option linter.unusedSimpArgs false
set_option linter.unusedVariables false

theorem pre3_plain {B : Nat} {w0 V : World} {tg : Nat → Nat × Nat} {N Bx Bsys Bmap Bn fr rr : Nat} {nodes : Value} {nb : Nat → Nat} {S : Nat → ByteArray} {idx : ByteArray → Option Nat} {tN : ByteArray} {q : Int} {np : Nat} {FP TP : Nat → ByteArray} {QP : Nat → Int} {LS : Nat → Nat} {ZS : Nat → Nat → Int} {MS : Nat → Int} {nB : Nat} {FB TB : Nat → ByteArray} {QB : Nat → Int} {wl : Nat} {WZ : Nat → Int} {num : Int} {val : Nat → Value} {cnt : Nat → Nat} {cs : Nat → List Value} {f : Nat → Value} (hs : SysIn B w0 V tg N Bx Bsys Bmap fr nodes nb S idx none val (upd (upd (upd cnt 0 nB) (1 + 2 * rr) (upd cnt 0 nB (1 + 2 * rr) + 1)) 0 (upd cnt 0 nB 0 + 1))
      (upd (upd (upd cs 0 (mList nB FB TB QB)) (1 + 2 * rr) (upd cs 0 (mList nB FB TB QB) (1 + 2 * rr) ++ msgCells (S fr) tN q)) 0 (upd cs 0 (mList nB FB TB QB) 0 ++ msgCells (S fr) tN q)))
    (hrr : rr < N) (row : V.rowIs Bn 44 N f) (ptr : ∀ j, j < N → f j = .pointer (some ⟨nb j, 0, none⟩)) (gb : (tg Bn).1 = 4) (hp : Prior V tg rr N cnt cs np FP TP QP 0 LS ZS MS) :
    Pre3 B w0 V tg N Bx Bsys Bmap Bn fr rr nodes nb S idx false none tN q np FP TP QP LS ZS MS nB FB TB QB wl WZ num val (upd (upd (upd cnt 0 nB) (1 + 2 * rr) (upd cnt 0 nB (1 + 2 * rr) + 1)) 0 (upd cnt 0 nB 0 + 1))
      (upd (upd (upd cs 0 (mList nB FB TB QB)) (1 + 2 * rr) (upd cs 0 (mList nB FB TB QB) (1 + 2 * rr) ++ msgCells (S fr) tN q)) 0 (upd cs 0 (mList nB FB TB QB) 0 ++ msgCells (S fr) tN q)) f := by
  obtain ⟨p1, p2, p3, _⟩ := (hp rr hrr).1 rfl
  refine ⟨hs, hrr, row, ptr, gb, ⟨?_, ?_⟩, ⟨?_, ?_⟩, ?_, fun j hj hne => ⟨?_, ?_⟩⟩
  · rw [upd_same, upd_same]
  · rw [upd_same, upd_same]
  · rw [upd_other _ _ (show 1 + 2 * rr ≠ 0 from by omega), upd_same, upd_other _ _ (show 1 + 2 * rr ≠ 0 from by omega), p1]
  · rw [upd_other _ _ (show 1 + 2 * rr ≠ 0 from by omega), upd_same, upd_other _ _ (show 1 + 2 * rr ≠ 0 from by omega), p2]
  · rw [if_neg (by simp), upd_other _ _ (show 2 + 2 * rr ≠ 0 from by omega), upd_other _ _ (show 2 + 2 * rr ≠ 1 + 2 * rr from by omega), upd_other _ _ (show 2 + 2 * rr ≠ 0 from by omega), p3]
  · have := (hp j hj).2 (by omega)
    rw [upd_other _ _ (show 1 + 2 * j ≠ 0 from by omega), upd_other _ _ (show 1 + 2 * j ≠ 1 + 2 * rr from by omega), upd_other _ _ (show 1 + 2 * j ≠ 0 from by omega)]; exact this.1
  · have := (hp j hj).2 (by omega)
    rw [upd_other _ _ (show 2 + 2 * j ≠ 0 from by omega), upd_other _ _ (show 2 + 2 * j ≠ 1 + 2 * rr from by omega), upd_other _ _ (show 2 + 2 * j ≠ 0 from by omega)]; exact this.2.2.1

theorem pre3_traced {B : Nat} {w0 V : World} {tg : Nat → Nat × Nat} {N Bx Bsys Bmap Bn fr rr : Nat} {nodes : Value} {nb : Nat → Nat} {S : Nat → ByteArray} {idx : ByteArray → Option Nat} {tN : ByteArray} {q : Int} {np : Nat} {FP TP : Nat → ByteArray} {QP : Nat → Int} {LS : Nat → Nat} {ZS : Nat → Nat → Int} {MS : Nat → Int} {nB : Nat} {FB TB : Nat → ByteArray} {QB : Nat → Int} {wl : Nat} {WZ : Nat → Int} {num : Int} {val : Nat → Value} {cnt : Nat → Nat} {cs : Nat → List Value} {f : Nat → Value} {tp : Option Addr} {b : Option Addr} {c : Nat} (hs : SysIn B w0 V tg N Bx Bsys Bmap fr nodes nb S idx tp val (upd (upd (upd (upd cnt 0 nB) (1 + 2 * rr) (upd cnt 0 nB (1 + 2 * rr) + 1)) (2 + 2 * rr) (upd cnt 0 nB (2 + 2 * rr) + 1)) 0 (upd cnt 0 nB 0 + 1))
      (upd (upd (upd (upd cs 0 (mList nB FB TB QB)) (1 + 2 * rr) (upd cs 0 (mList nB FB TB QB) (1 + 2 * rr) ++ msgCells (S fr) tN q)) (2 + 2 * rr) (upd cs 0 (mList nB FB TB QB) (2 + 2 * rr) ++ stCells b wl c num)) 0 (upd cs 0 (mList nB FB TB QB) 0 ++ msgCells (S fr) tN q)))
    (hrr : rr < N) (row : V.rowIs Bn 44 N f) (ptr : ∀ j, j < N → f j = .pointer (some ⟨nb j, 0, none⟩)) (gb : (tg Bn).1 = 4) (hp : Prior V tg rr N cnt cs np FP TP QP np LS ZS MS) (hz : CInts V tg b wl WZ) :
    Pre3 B w0 V tg N Bx Bsys Bmap Bn fr rr nodes nb S idx true tp tN q np FP TP QP LS ZS MS nB FB TB QB wl WZ num val (upd (upd (upd (upd cnt 0 nB) (1 + 2 * rr) (upd cnt 0 nB (1 + 2 * rr) + 1)) (2 + 2 * rr) (upd cnt 0 nB (2 + 2 * rr) + 1)) 0 (upd cnt 0 nB 0 + 1))
      (upd (upd (upd (upd cs 0 (mList nB FB TB QB)) (1 + 2 * rr) (upd cs 0 (mList nB FB TB QB) (1 + 2 * rr) ++ msgCells (S fr) tN q)) (2 + 2 * rr) (upd cs 0 (mList nB FB TB QB) (2 + 2 * rr) ++ stCells b wl c num)) 0 (upd cs 0 (mList nB FB TB QB) 0 ++ msgCells (S fr) tN q)) f := by
  obtain ⟨p1, p2, p3, A, C, p4, p5⟩ := (hp rr hrr).1 rfl
  refine ⟨hs, hrr, row, ptr, gb, ⟨?_, ?_⟩, ⟨?_, ?_⟩, ?_, fun j hj hne => ⟨?_, ?_⟩⟩
  · rw [upd_same, upd_same]
  · rw [upd_same, upd_same]
  · rw [upd_other _ _ (show 1 + 2 * rr ≠ 0 from by omega), upd_other _ _ (show 1 + 2 * rr ≠ 2 + 2 * rr from by omega), upd_same, upd_other _ _ (show 1 + 2 * rr ≠ 0 from by omega), p1]
  · rw [upd_other _ _ (show 1 + 2 * rr ≠ 0 from by omega), upd_other _ _ (show 1 + 2 * rr ≠ 2 + 2 * rr from by omega), upd_same, upd_other _ _ (show 1 + 2 * rr ≠ 0 from by omega), p2]
  · rw [if_pos rfl, upd_other _ _ (show 2 + 2 * rr ≠ 0 from by omega), upd_same, upd_other _ _ (show 2 + 2 * rr ≠ 0 from by omega), p3, upd_other _ _ (show 2 + 2 * rr ≠ 0 from by omega), upd_same, upd_other _ _ (show 2 + 2 * rr ≠ 0 from by omega), p4]
    exact ⟨rfl, A, C, b, c, rfl, p5, hz⟩
  · have := (hp j hj).2 (by omega)
    rw [upd_other _ _ (show 1 + 2 * j ≠ 0 from by omega), upd_other _ _ (show 1 + 2 * j ≠ 2 + 2 * rr from by omega), upd_other _ _ (show 1 + 2 * j ≠ 1 + 2 * rr from by omega), upd_other _ _ (show 1 + 2 * j ≠ 0 from by omega)]; exact this.1
  · have := (hp j hj).2 (by omega)
    rw [upd_other _ _ (show 2 + 2 * j ≠ 0 from by omega), upd_other _ _ (show 2 + 2 * j ≠ 2 + 2 * rr from by omega), upd_other _ _ (show 2 + 2 * j ≠ 1 + 2 * rr from by omega), upd_other _ _ (show 2 + 2 * j ≠ 0 from by omega)]; exact this.2.2.1

/-- The number that the search leaves. -/
def lastI (S : Nat → ByteArray) (k : Nat) (t : ByteArray) : Int := match lastN S k t with | some j => j | none => -1
theorem lastI_yes {S : Nat → ByteArray} {k : Nat} {t : ByteArray} (h : S k = t) : lastI S (k + 1) t = k := by unfold lastI; rw [lastN, if_pos h.symm]
theorem lastI_no {S : Nat → ByteArray} {k : Nat} {t : ByteArray} (h : S k ≠ t) : lastI S (k + 1) t = lastI S k t := by unfold lastI; rw [lastN, if_neg (fun e => h e.symm)]

/-- The one Send. -/
def PrePost (B : Nat) (w0 : World) (N Bx Bsys Bmap Bn fr rr : Nat) (nodes : Value) (nb : Nat → Nat) (S : Nat → ByteArray) (tr : Bool) (tp : Option Addr) (tN : ByteArray) (q : Int) (np : Nat) (FP TP : Nat → ByteArray) (QP : Nat → Int) (LS : Nat → Nat) (ZS : Nat → Nat → Int) (MS : Nat → Int) (nB : Nat) (FB TB : Nat → ByteArray) (QB : Nat → Int) (wl : Nat) (WZ : Nat → Int) (num : Int) (f : Nat → Value) (e : Ending) (w' : World) : Prop :=
  e = .returned (.tuple #[]) ∧ ∃ tg val cnt cs, Pre3 B w0 w' tg N Bx Bsys Bmap Bn fr rr nodes nb S (lastN S N) tr tp tN q np FP TP QP LS ZS MS nB FB TB QB wl WZ num val cnt cs f
theorem send3_plain {B : Nat} {w0 V : World} {tg : Nat → Nat × Nat} {N Bx Bsys Bmap Bn fr rr : Nat} {nodes : Value} {nb : Nat → Nat} {S : Nat → ByteArray} {tN : ByteArray} {q : Int} {np : Nat} {FP TP : Nat → ByteArray} {QP : Nat → Int} {LS : Nat → Nat} {ZS : Nat → Nat → Int} {MS : Nat → Int} {nB : Nat} {FB TB : Nat → ByteArray} {QB : Nat → Int} {wl : Nat} {WZ : Nat → Int} {num : Int} {val : Nat → Value} {cnt : Nat → Nat} {cs : Nat → List Value} {f : Nat → Value} (hs : SysIn B w0 V tg N Bx Bsys Bmap fr nodes nb S (lastN S N) none val (upd cnt 0 nB) (upd cs 0 (mList nB FB TB QB))) (hto : lastN S N tN = some rr) (hsz : tN.size ≤ maxLen) (hnp : np ≤ 4096) (hnB : nB ≤ 4096)
    (row : V.rowIs Bn 44 N f) (ptr : ∀ j, j < N → f j = .pointer (some ⟨nb j, 0, none⟩)) (gb : (tg Bn).1 = 4) (hp : Prior V tg rr N cnt cs np FP TP QP 0 LS ZS MS) :
    Calls Tryf.prog 15 #[.pointer (some ⟨Bx, 0, none⟩), .string tN, .int .i64 q] V (PrePost B w0 N Bx Bsys Bmap Bn fr rr nodes nb S false none tN q np FP TP QP LS ZS MS nB FB TB QB wl WZ num f) := by
  have hrr : rr < N := lastN_lt hto
  obtain ⟨p1, _⟩ := (hp rr hrr).1 rfl
  refine zzSend_of ((send_plain B w0 V tg N Bx Bsys Bmap fr nodes nb S (lastN S N) val (upd cnt 0 nB) (upd cs 0 (mList nB FB TB QB)) tN q rr hs hsz hto (by rw [upd_other _ _ (by omega), p1]; omega) (by rw [upd_same]; omega)).mono fun e w' hpst => ?_)
  obtain ⟨he, tg', val', hl, hs'⟩ := hpst
  exact ⟨he, rfl, tg', val', _, _, pre3_plain hs' hrr (hl.three.row row (.inl gb)) ptr (by rw [hl.1 _ row.lt]; exact gb) (hp.link (fun a n Z hc => hc.link hl.three))⟩
theorem send3_traced {B : Nat} {w0 V : World} {tg : Nat → Nat × Nat} {N Bx Bsys Bmap Bn fr rr : Nat} {nodes : Value} {nb : Nat → Nat} {S : Nat → ByteArray} {tN : ByteArray} {q : Int} {np : Nat} {FP TP : Nat → ByteArray} {QP : Nat → Int} {LS : Nat → Nat} {ZS : Nat → Nat → Int} {MS : Nat → Int} {nB : Nat} {FB TB : Nat → ByteArray} {QB : Nat → Int} {wl : Nat} {WZ : Nat → Int} {val : Nat → Value} {cnt : Nat → Nat} {cs : Nat → List Value} {f : Nat → Value} {Bt Bc K cK : Nat} {sa : Option Addr} {sl sc : Nat} {st ms : Int} (hs : SysIn B w0 V tg N Bx Bsys Bmap fr nodes nb S (lastN S N) (some ⟨Bt, 0, none⟩) val (upd cnt 0 nB) (upd cs 0 (mList nB FB TB QB))) (ht : TrIn V tg Bt Bc K cK fr sa sl sc st ms wl WZ) (hto : lastN S N tN = some rr) (hsz : tN.size ≤ maxLen) (hnp : np ≤ 4096) (hnB : nB ≤ 4096)
    (row : V.rowIs Bn 44 N f) (ptr : ∀ j, j < N → f j = .pointer (some ⟨nb j, 0, none⟩)) (gb : (tg Bn).1 = 4) (hp : Prior V tg rr N cnt cs np FP TP QP np LS ZS MS) :
    Calls Tryf.prog 15 #[.pointer (some ⟨Bx, 0, none⟩), .string tN, .int .i64 q] V (PrePost B w0 N Bx Bsys Bmap Bn fr rr nodes nb S true (some ⟨Bt, 0, none⟩) tN q np FP TP QP LS ZS MS nB FB TB QB wl WZ (wrap64 (ms + 1)) f) := by
  have hrr : rr < N := lastN_lt hto
  obtain ⟨p1, _, p3, _⟩ := (hp rr hrr).1 rfl
  refine zzSend_of ((send_traced B w0 V tg N Bx Bsys Bmap fr nodes nb S (lastN S N) val (upd cnt 0 nB) (upd cs 0 (mList nB FB TB QB)) tN q rr Bt Bc K cK sa sl sc st ms wl WZ hs ht (by rw [upd_other _ _ (by omega), p3]; omega) hsz hto (by rw [upd_other _ _ (by omega), p1]; omega) (by rw [upd_same]; omega)).mono fun e w' hpst => ?_)
  obtain ⟨he, tg', val', b, c, hl, hz, ht', hs'⟩ := hpst
  exact ⟨he, rfl, tg', val', _, _, pre3_traced hs' hrr (hl.row row (.inl gb)) ptr (by rw [hl.1 _ row.lt]; exact gb) (hp.link (fun a n Z hc => hc.link hl)) hz⟩

theorem Pre3.reads {B : Nat} {w0 V : World} {tg : Nat → Nat × Nat} {N Bx Bsys Bmap Bn fr rr : Nat} {nodes : Value} {nb : Nat → Nat} {S : Nat → ByteArray} {idx : ByteArray → Option Nat} {tN : ByteArray} {q : Int} {np : Nat} {FP TP : Nat → ByteArray} {QP : Nat → Int} {LS : Nat → Nat} {ZS : Nat → Nat → Int} {MS : Nat → Int} {nB : Nat} {FB TB : Nat → ByteArray} {QB : Nat → Int} {wl : Nat} {WZ : Nat → Int} {num : Int} {val : Nat → Value} {cnt : Nat → Nat} {cs : Nat → List Value} {f : Nat → Value} {tr : Bool} {tp : Option Addr} (h : Pre3 B w0 V tg N Bx Bsys Bmap Bn fr rr nodes nb S idx tr tp tN q np FP TP QP LS ZS MS nB FB TB QB wl WZ num val cnt cs f) :
    V.cell? ⟨Bn, rr, none⟩ = some (.pointer (some ⟨nb rr, 0, none⟩)) ∧ (∃ a c, V.cell? ⟨nb rr, 3, none⟩ = some (.slice a (np + 1) c)) ∧ ∃ a c, V.cell? ⟨nb rr, 4, none⟩ = some (.slice a (if tr then np + 1 else 0) c) := by
  have hrr := h.hrr
  refine ⟨(h.row.cell hrr).trans (congrArg some (h.ptr rr hrr)), ?_, ?_⟩
  · obtain ⟨a, c, e, _⟩ := own_slice (h.sys.rows (1 + 2 * rr) (by omega))
    exact ⟨a, c, ((h.sys.node rr hrr).cell (i := 3) (by omega)).trans (congrArg some (by show val (1 + 2 * rr) = _; rw [e, h.c1.1]))⟩
  · obtain ⟨a, c, e, _⟩ := own_slice (h.sys.rows (2 + 2 * rr) (by omega))
    have hc2 := h.c2
    refine ⟨a, c, ((h.sys.node rr hrr).cell (i := 4) (by omega)).trans (congrArg some (by show val (2 + 2 * rr) = _; rw [e]; cases tr with | false => rw [if_neg (by simp)] at hc2; rw [hc2]; rfl | true => rw [if_pos rfl] at hc2; rw [hc2.1]; rfl))⟩

theorem strEq_yes {a b : ByteArray} (h : a = b) : (a.toList == b.toList) = true := by subst h; simp
theorem strEq_no {a b : ByteArray} (h : a ≠ b) : (a.toList == b.toList) = false := by
  rw [beq_eq_false_iff_ne]
  intro e
  rw [ByteArray.toList_eq, ByteArray.toList_eq] at e
  exact h (Go.WideShapes.bytes_inj e)
end Go.Proofs.Qxb6608660aFmt

import Derived.Test.Qxb6603999aLI
namespace Go.Proofs.Qxb6603999a.Law
open Go.RowKit Go.Proofs.Qxb6603999a.Common Go.Proofs.Qxb6603999a.Model Go.Proofs.Qxb6603999a.Target Go.Proofs.Qxb6603999a.Fit Go.Proofs.Qxb6603999a.IdxFits Go.Proofs.Qxb6603999a.Deps Go.Proofs.Qxb6603999a.Miss Go.Proofs.Qxb6603999a.CopyP Go.Proofs.Qxb6603999a.Res Go.Proofs.Qxb6603999a.Got Go.Proofs.Qxb6603999a.Sum Go.Proofs.Qxb6603999a.DepsO Go.Proofs.Qxb6603999a.Aft

def tv (a : Nds) (ok : ByteArray → Bool) (p : Prob) (q : QV) (g : Gv) (yA : Option Addr) (cA : Nat) (yB : Option Addr) (cB : Nat) : AV where
  yD := q.yD
  cD := q.cD
  yM := g.yM
  cM := g.cM
  F := fun j => ((ml a ok (mbOf p) a.n 0).getD j noEdge).1
  T := fun j => ((ml a ok (mbOf p) a.n 0).getD j noEdge).2
  yS := g.yS
  cS := g.cS
  Z := fun j => (sl a (sbOf p) a.n).getD j ByteArray.empty
  yC := q.yC
  cC := q.cC
  y := q.y
  kc := q.kc
  xA := yA
  nA := (am a ok a.n).length
  cA := cA
  fA := fun j => ((am a ok a.n).getD j noEdge).1
  tA := fun j => ((am a ok a.n).getD j noEdge).2
  xB := yB
  nB := (asl a a.n).length
  cB := cB
  sB := fun j => (asl a a.n).getD j ByteArray.empty

variable {a : Nds} {ok : ByteArray → Bool} {val : ByteArray → Int} {p : Prob} {q : QV} {g : Gv} {yA : Option Addr} {cA : Nat} {yB : Option Addr} {cB : Nat} {gq gd gw : Nat} {w : World}

theorem mlen : (ml a ok (mbOf p) a.n 0).length = p.nM + (am a ok a.n).length := by rw [ml_all, List.length_append, mb_len]
theorem slen : (sl a (sbOf p) a.n).length = p.nS + (asl a a.n).length := by rw [sl_all, List.length_append, sb_len]
theorem getD_left {α : Type} {l l' : List α} {j : Nat} {d : α} (h : j < l.length) : (l ++ l').getD j d = l.getD j d := by
  rw [List.getD_eq_getElem?_getD, List.getD_eq_getElem?_getD, List.getElem?_append_left h]
theorem getD_right {α : Type} {l l' : List α} {j n : Nat} {d : α} (h : l.length = n) : (l ++ l').getD (n + j) d = l'.getD j d := by
  rw [List.getD_eq_getElem?_getD, List.getD_eq_getElem?_getD, List.getElem?_append_right (by omega), h, Nat.add_sub_cancel_left]
theorem mb_at {j : Nat} (h : j < p.nM) : (mbOf p).getD j noEdge = (p.fM j, p.tM j) := by
  rw [List.getD_eq_getElem?_getD]; unfold mbOf; rw [List.getElem?_map, List.getElem?_range h]; rfl
theorem sb_at {j : Nat} (h : j < p.nS) : (sbOf p).getD j ByteArray.empty = p.sS j := by
  rw [List.getD_eq_getElem?_getD]; unfold sbOf; rw [List.getElem?_map, List.getElem?_range h]; rfl

theorem aft_of (h : Got a ok val p gq q gd g w) (hp : p.Reads w 0) (oA : w.ownsRow gw 46 2 (.slice yA (am a ok a.n).length cA) (am a ok a.n).length (edg (am a ok a.n))) (oB : w.ownsRow gw 9 1 (.slice yB (asl a a.n).length cB) (asl a a.n).length (strs (asl a a.n))) : Aft p gq (tv a ok p q g yA cA yB cB) w :=
  { lt := h.lq, q0 := h.q0, q1 := by have := h.q1; rw [mlen] at this; exact this, q2 := by have := h.q2; rw [slen] at this; exact this, q3 := h.q3, rp := hp, rD := h.rD
    rM := by have := h.rM; rw [mlen] at this; exact this
    rS := by have := h.rS; rw [slen] at this; exact this
    rC := h.rC
    rA := rd_base (rd_of_owns oA fun j hj => edg_at _ j hj)
    rB := by
      have : RdS w gw yB (asl a a.n).length (fun j => (asl a a.n).getD j ByteArray.empty) := rd_of_owns oB fun j hj => strs_at (by omega)
      exact rd_base this }
theorem aftp_of (h : Got a ok val p gq q gd g w) (hm : ∀ i, i < a.n → a.m i ≤ 4096) (hn : a.n ≤ 65536) (hq : (q.yD = none ↔ p.xD = none) ∧ (q.yM = none ↔ p.xM = none) ∧ (q.yS = none ↔ p.xS = none) ∧ (q.yC = none ↔ p.xC = none) ∧ ∀ j, j < p.nC → (q.y j = none ↔ p.yC j = none)) : AftP p (tv a ok p q g yA cA yB cB) :=
  { nD := hq.1, nC := hq.2.2.2.1, nY := hq.2.2.2.2
    nM := by
      show g.yM = none ↔ p.xM = none ∧ (am a ok a.n).length = 0
      rw [h.nM, hq.2.1, mlen]; exact ⟨fun e => ⟨e.1, by have := e.2; omega⟩, fun e => ⟨e.1, by have := e.2; omega⟩⟩
    nS := by
      show g.yS = none ↔ p.xS = none ∧ (asl a a.n).length = 0
      rw [h.nS, hq.2.2.1, slen]; exact ⟨fun e => ⟨e.1, by have := e.2; omega⟩, fun e => ⟨e.1, by have := e.2; omega⟩⟩
    M0 := fun j hj => by
      show ((ml a ok (mbOf p) a.n 0).getD j noEdge).1 = p.fM j ∧ ((ml a ok (mbOf p) a.n 0).getD j noEdge).2 = p.tM j
      rw [ml_all, getD_left (by rw [mb_len]; exact hj), mb_at hj]; exact ⟨rfl, rfl⟩
    M1 := fun j hj => by
      show ((ml a ok (mbOf p) a.n 0).getD (p.nM + j) noEdge).1 = ((am a ok a.n).getD j noEdge).1 ∧ ((ml a ok (mbOf p) a.n 0).getD (p.nM + j) noEdge).2 = ((am a ok a.n).getD j noEdge).2
      rw [ml_all, getD_right (mb_len p)]; exact ⟨rfl, rfl⟩
    S0 := fun j hj => by
      show (sl a (sbOf p) a.n).getD j ByteArray.empty = p.sS j
      rw [sl_all, getD_left (by rw [sb_len]; exact hj), sb_at hj]
    S1 := fun j hj => by
      show (sl a (sbOf p) a.n).getD (p.nS + j) ByteArray.empty = (asl a a.n).getD j ByteArray.empty
      rw [sl_all, getD_right (sb_len p)]
    bA := by
      show (am a ok a.n).length ≤ 1073741824
      have := am_len (ok := ok) hm (Nat.le_refl a.n); omega
    bB := by
      show (asl a a.n).length ≤ 1073741824
      have := asl_len (a := a) (i := a.n); omega }
theorem nil_test {d : Nat} (h : Got a ok val p gq q gd g w) (hd : d < a.n) : ((g.ye d).isNone == (((el a ok val a.n 0 d).length : Int) == 0)) = true := by
  have := h.nei d hd
  cases hl : el a ok val a.n 0 d with
  | nil => rw [this.2 hl]; simp
  | cons x t =>
    have hne : g.ye d ≠ none := fun e => by rw [this.1 e] at hl; cases hl
    cases hy : g.ye d with
    | none => exact absurd hy hne
    | some b =>
      have : ((((x :: t).length : Nat) : Int) == 0) = false := by simp only [List.length_cons, beq_eq_false_iff_ne, ne_eq]; omega
      rw [this]; rfl
end Go.Proofs.Qxb6603999a.Law

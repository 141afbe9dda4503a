import Derived.Test.Qxb6603999aRes
namespace Go.Proofs.Qxb6603999a.Got
open Go.RowKit Go.Proofs.Qxb6603999a.Common Go.Proofs.Qxb6603999a.Model Go.Proofs.Qxb6603999a.Target Go.Proofs.Qxb6603999a.Fit Go.Proofs.Qxb6603999a.IdxFits Go.Proofs.Qxb6603999a.Deps Go.Proofs.Qxb6603999a.Miss Go.Proofs.Qxb6603999a.CopyP Go.Proofs.Qxb6603999a.MSet Go.Proofs.Qxb6603999a.Fam Go.Proofs.Qxb6603999a.Res

/-- Where the answer lies. -/
structure Gv where
  gE : Nat
  yd : Nat → Option Addr
  cd : Nat → Nat
  ye : Nat → Option Addr
  ce : Nat → Nat
  yM : Option Addr
  cM : Nat
  yS : Option Addr
  cS : Nat

/-- What resolve leaves, by its reading. -/
structure Got (a : Nds) (ok : ByteArray → Bool) (val : ByteArray → Int) (p : Prob) (gq : Nat) (q : QV) (B0 : Nat) (g : Gv) (w : World) : Prop where
  rd : Rd w 0 1 (some ⟨B0, 0, none⟩) a.n (fun j => .slice (g.yd j) (D a ok val j (a.m j)).length (g.cd j))
  rdi : ∀ j, j < a.n → RdI w 0 (g.yd j) (D a ok val j (a.m j)).length (fun k => (D a ok val j (a.m j)).getD k 0)
  ndi : ∀ j, j < a.n → (g.yd j = none ↔ D a ok val j (a.m j) = [])
  re : Rd w 0 1 (some ⟨g.gE, 0, none⟩) a.n (fun j => .slice (g.ye j) (el a ok val a.n 0 j).length (g.ce j))
  rei : ∀ j, j < a.n → RdI w 0 (g.ye j) (el a ok val a.n 0 j).length (fun k => (el a ok val a.n 0 j).getD k 0)
  nei : ∀ j, j < a.n → (g.ye j = none ↔ el a ok val a.n 0 j = [])
  lq : gq < w.heap.size
  q0 : w.cell? ⟨gq, 0, none⟩ = some (q.vD p)
  q1 : w.cell? ⟨gq, 1, none⟩ = some (.slice g.yM (ml a ok (mbOf p) a.n 0).length g.cM)
  q2 : w.cell? ⟨gq, 2, none⟩ = some (.slice g.yS (sl a (sbOf p) a.n).length g.cS)
  q3 : w.cell? ⟨gq, 3, none⟩ = some (q.vC p)
  rM : RdE w 0 g.yM (ml a ok (mbOf p) a.n 0).length (fun j => ((ml a ok (mbOf p) a.n 0).getD j noEdge).1) (fun j => ((ml a ok (mbOf p) a.n 0).getD j noEdge).2)
  nM : g.yM = none ↔ q.yM = none ∧ (ml a ok (mbOf p) a.n 0).length = p.nM
  rS : RdS w 0 g.yS (sl a (sbOf p) a.n).length (fun j => (sl a (sbOf p) a.n).getD j ByteArray.empty)
  nS : g.yS = none ↔ q.yS = none ∧ (sl a (sbOf p) a.n).length = p.nS
  rD : RdS w 0 q.yD p.nD p.sD
  rC : RdC w 0 q.yC p.nC q.y p.mC q.kc p.sC
theorem Got.below {a : Nds} {ok : ByteArray → Bool} {val : ByteArray → Int} {p : Prob} {gq : Nat} {q : QV} {B0 : Nat} {g : Gv} {w w' : World} (h : Got a ok val p gq q B0 g w) (hb : Below w.heap.size w w') : Got a ok val p gq q B0 g w' :=
  { rd := h.rd.below hb, rdi := fun j hj => (h.rdi j hj).below hb, ndi := h.ndi, re := h.re.below hb, rei := fun j hj => (h.rei j hj).below hb, nei := h.nei, lq := Nat.lt_of_lt_of_le h.lq hb.size,
    q0 := (hb.cell (p := ⟨gq, 0, none⟩) h.lq).trans h.q0, q1 := (hb.cell (p := ⟨gq, 1, none⟩) h.lq).trans h.q1, q2 := (hb.cell (p := ⟨gq, 2, none⟩) h.lq).trans h.q2, q3 := (hb.cell (p := ⟨gq, 3, none⟩) h.lq).trans h.q3,
    rM := h.rM.below hb, nM := h.nM, rS := h.rS.below hb, nS := h.nS, rD := h.rD.below hb, rC := h.rC.below hb }

theorem strs_at {l : List ByteArray} {j : Nat} (h : j < l.length) : (strs l)[j]? = some (.string (l.getD j ByteArray.empty)) := by
  unfold strs
  rw [List.getElem?_map, List.getD_eq_getElem?_getD, List.getElem?_eq_getElem h]; rfl
theorem rd_base {w : World} {B s : Nat} {x : Option Addr} {n : Nat} {cell : Nat → Value} (h : Rd w B s x n cell) : Rd w 0 s x n cell := h.carry (.of (Below.refl _ _)) (Nat.zero_le _)

/-- the address and the capacity of a slice -/
def adr : Value → Option Addr
  | .slice y _ _ => y
  | _ => none
def cp : Value → Nat
  | .slice _ _ c => c
  | _ => 0
theorem adr_of {w : World} {B e s n : Nat} {v : Value} {xs : List Value} (h : w.ownsRow B e s v n xs) : v = .slice (adr v) n (cp v) := by
  obtain ⟨y, c, rfl⟩ := owns_form h; rfl
theorem adr_nil {w : World} {B e s n : Nat} {v : Value} {xs : List Value} (h : w.ownsRow B e s v n xs) : adr v = none ↔ v = .slice none 0 0 := by
  rcases h.2 with ⟨h1, h2⟩ | ⟨g, cap, cur, h1, _⟩
  · rw [h1]; simp [adr]
  · rw [h1]; simp [adr]

set_option maxRecDepth 20000 in
theorem got_of {a : Nds} {ok : ByteArray → Bool} {val : ByteArray → Int} {p : Prob} {gq : Nat} {q : QV} {w w' : World} {gE gL gM : Nat} {v : Nat → Value} {n : Nat → Nat} {xs : Nat → List Value} {m : Nat} {f : Nat → ByteArray → Bool} {L : Nat → Int}
    (hq : Copy p gq q w) (h : RI a ok val a.n w.heap.size gE gL gM gq q.b1 q.b2 q.b3 p.nM p.nS (q.yM = none) (q.yS = none) (q.vD p) (q.vC p) (mbOf p) (sbOf p) w w' a.n 0 v n xs m f L) :
    Got a ok val p gq q w.heap.size { gE := gE, yd := fun j => adr (v (7 + j)), cd := fun j => cp (v (7 + j)), ye := fun j => adr (v (7 + a.n + j)), ce := fun j => cp (v (7 + a.n + j)), yM := adr (v 4), cM := cp (v 4), yS := adr (v 5), cS := cp (v 5) } w' := by
  have hd : ∀ j, j < a.n → dl a ok val a.n 0 j = D a ok val j (a.m j) := fun j hj => by unfold dl; rw [if_pos hj]
  have o7 : ∀ j, j < a.n → w'.ownsRow w.heap.size 3 1 (v (7 + j)) (D a ok val j (a.m j)).length (ints (D a ok val j (a.m j))) := fun j hj => by
    have := h.big (j := 7 + j) (by omega) (by omega)
    rw [(h.x7 j hj).1, (h.x7 j hj).2, hd j hj] at this; exact this
  have o8 : ∀ j, j < a.n → w'.ownsRow w.heap.size 3 1 (v (7 + a.n + j)) (el a ok val a.n 0 j).length (ints (el a ok val a.n 0 j)) := fun j hj => by
    have := h.big (j := 7 + a.n + j) (by omega) (by omega)
    rw [(h.x8 j hj).1, (h.x8 j hj).2] at this; exact this
  have nl : ∀ j, 7 ≤ j → j < 7 + 2 * a.n → (v j = .slice none 0 0 ↔ n j = 0) := fun j h7 hj => by
    have := (h.st.nil j hj).2
    rw [this]
    obtain ⟨_, _, _, e4⟩ := sh_big (N := a.n) (B0 := w.heap.size) (gE := gE) (gL := gL) (gM := gM) (gq := gq) (b1 := q.b1) (b2 := q.b2) (b3 := q.b3) (nM := p.nM) (nS := p.nS) (zM := q.yM = none) (zS := q.yS = none) h7
    rw [e4]
    exact ⟨fun e => e.2, fun e => ⟨sh_z h7, e⟩⟩
  have o1 : w'.ownsRow w.heap.size 39 1 (.slice (some ⟨w.heap.size, 0, none⟩) a.n a.n) a.n (vals a.n fun j => v (7 + j)) := by
    have := h.st.own 1 (by show 1 < 7 + 2 * a.n; omega)
    rw [h.v1, h.n1, h.x1] at this; exact this
  have o2 : w'.ownsRow w.heap.size 39 1 (.slice (some ⟨gE, 0, none⟩) a.n a.n) a.n (vals a.n fun j => v (7 + a.n + j)) := by
    have := h.st.own 2 (by show 2 < 7 + 2 * a.n; omega)
    rw [h.v2, h.n2, h.x2] at this; exact this
  have o4 := h.own4
  rw [h.x4, h.n4] at o4
  have o5 := h.own5
  rw [h.x5, h.n5] at o5
  have n4 := (h.st.nil 4 (by show 4 < 7 + 2 * a.n; omega)).2
  have n5 := (h.st.nil 5 (by show 5 < 7 + 2 * a.n; omega)).2
  have e4 := adr_of o4
  have e5 := adr_of o5
  have ab : Above q.b3 w w' := Res.St.above h.st (Nat.le_refl _) (by have := hq.l1; have := hq.l2; have := hq.l3; omega) rfl
  have oD : w'.ownsRow (gq + 1) 9 1 (q.vD p) p.nD (vals p.nD fun j => .string (p.sD j)) := owns_same hq.oD fun g hg => by
    have h1 := hq.oD.lt g hg
    have h2 := hq.uD g hg
    have h3 := hq.l2
    exact h.st.block g h1.2 (by show ¬ (w.heap.size ≤ g ∨ g = gq ∨ (q.b1 ≤ g ∧ g < q.b3)); omega)
  obtain ⟨c0, c1, c2, c3⟩ := h.own0.cells
  refine
  { rd := rd_base (rd_of_owns o1 fun j hj => ?_)
    rdi := fun j hj => rd_base (B := w.heap.size) ?_
    ndi := fun j hj => ?_
    re := rd_base (rd_of_owns o2 fun j hj => ?_)
    rei := fun j hj => rd_base (B := w.heap.size) ?_
    nei := fun j hj => ?_
    lq := (h.own0.lt gq rfl).2
    q0 := c0
    q1 := by rw [c1]; exact congrArg some e4
    q2 := by rw [c2]; exact congrArg some e5
    q3 := c3
    rM := rd_base (B := q.b1) ?_
    nM := ?_
    rS := rd_base (B := q.b2) ?_
    nS := ?_
    rD := rd_base (rd_of_owns oD fun j hj => vals_at (by omega))
    rC := ⟨rd_base (hq.rC.1.carry ab (Nat.le_refl _)), fun j hj => rd_base ((hq.rC.2 j hj).carry ab (Nat.le_refl _))⟩ }
  · rw [vals_at (by omega)]; exact congrArg some (adr_of (o7 j (by omega)))
  · have := o7 j hj
    rw [adr_of this] at this
    exact rd_of_owns this fun k hk => ints_at (by omega)
  · show adr (v (7 + j)) = none ↔ _
    rw [adr_nil (o7 j hj), nl (7 + j) (by omega) (by omega), (h.x7 j hj).2, hd j hj, List.length_eq_zero_iff]
  · rw [vals_at (by omega)]; exact congrArg some (adr_of (o8 j (by omega)))
  · have := o8 j hj
    rw [adr_of this] at this
    exact rd_of_owns this fun k hk => ints_at (by omega)
  · show adr (v (7 + a.n + j)) = none ↔ _
    rw [adr_nil (o8 j hj), nl (7 + a.n + j) (by omega) (by omega), (h.x8 j hj).2, List.length_eq_zero_iff]
  · rw [e4] at o4
    exact rd_of_owns o4 fun k hk => edg_at _ k hk
  · show adr (v 4) = none ↔ _
    rw [adr_nil o4, n4, h.n4]; exact Iff.rfl
  · rw [e5] at o5
    exact rd_of_owns o5 fun k hk => strs_at (by omega)
  · show adr (v 5) = none ↔ _
    rw [adr_nil o5, n5, h.n5]; exact Iff.rfl

/-- what ZZresolve leaves -/
def Answered (a : Nds) (ok : ByteArray → Bool) (val : ByteArray → Int) (p : Prob) (gq Bn : Nat) (q : QV) (wL w : World) (e : Ending) (w' : World) : Prop :=
  ∃ g : Gv, e = .returned (.tuple #[.slice (some ⟨w.heap.size, 0, none⟩) a.n a.n, .slice (some ⟨g.gE, 0, none⟩) a.n a.n]) ∧ Got a ok val p gq q w.heap.size g w' ∧ Below wL.heap.size wL w' ∧ Above Bn w w'

theorem f8_any (a : Nds) (p : Prob) (q : QV) (gq Bn : Nat) (mv : Value) (ok : ByteArray → Bool) (val : ByteArray → Int) (wL w : World) (hL : Below wL.heap.size wL w) (hgL : wL.heap.size ≤ gq) (ha : a.Reads w Bn) (hBn : q.b3 ≤ Bn) (hgn : gq < Bn) (hf : a.Fits) (hpf : p.Fits) (hi : Idx wL mv ok val) (hs : ∀ i j, (a.s i j).size ≤ maxLen)
    (hv : ∀ i, i < a.n → InR a ok val i (a.m i)) (hq : Copy p gq q w) :
    Calls Try.prog 8 #[.slice a.x a.n a.c, mv, .pointer (some ⟨gq, 0, none⟩)] w fun e w' => Answered a ok val p gq Bn q wL w e w' := by
  have H := hid (f18_any a p q gq Bn mv ok val wL w hL hgL ha hBn hgn hf hpf hi hs hv hq)
  have HQ := hid hq
  have HL := hid hL
  clear hL ha hf hpf hi hs hv hq
  go_enter Try.func8, Try.ntmps8
  go_wp2_with fail
  refine H.out.mono ?_
  rintro e w' ⟨gE, gL, gM, v, n, xs, m, f, L, rfl, -, hR⟩
  have HR := hid hR
  clear hR
  go_wp2_with fail
  go_ret2
  exact ⟨_, rfl, got_of HQ.out HR.out, Res.St.low HR.out.st HL.out hgL (by have := HQ.out.l1; omega) rfl, Res.St.above HR.out.st hBn hgn rfl⟩
end Go.Proofs.Qxb6603999a.Got

import Derived.Test.Qxb6603999aFit
import Derived.Test.Qxb6603999aMiss
import Derived.Deep.DeepCutAuto
import Derived.BigRegion
namespace Go.Proofs.Qxb6603999a.CopyP
open Go.RowKit Go.Proofs.Qxb6603999a.Common Go.Proofs.Qxb6603999a.Small Go.Proofs.Qxb6603999a.Fit Go.Proofs.Qxb6603999a.Miss

/-- The struct at gq. -/
abbrev QRow (w : World) (gq : Nat) (a b c d : Value) : Prop := w.ownsRow gq 56 4 (.slice (some ⟨gq, 0, none⟩) 1 1) 1 [a, b, c, d]
theorem QRow.cells {w : World} {gq : Nat} {a b c d : Value} (h : QRow w gq a b c d) : w.cell? ⟨gq, 0, none⟩ = some a ∧ w.cell? ⟨gq, 1, none⟩ = some b ∧ w.cell? ⟨gq, 2, none⟩ = some c ∧ w.cell? ⟨gq, 3, none⟩ = some d :=
  ⟨by rw [h.cellAt 0 (by omega)]; rfl, by rw [h.cellAt 1 (by omega)]; rfl, by rw [h.cellAt 2 (by omega)]; rfl, by rw [h.cellAt 3 (by omega)]; rfl⟩
/-- The box of the parameter. -/
def Box (w : World) (P : Nat) (p : Prob) : Prop :=
  P < w.heap.size ∧ w.cell? ⟨P, 0, none⟩ = some (.slice p.xD p.nD p.cD) ∧ w.cell? ⟨P, 1, none⟩ = some (.slice p.xM p.nM p.cM) ∧ w.cell? ⟨P, 2, none⟩ = some (.slice p.xS p.nS p.cS) ∧ w.cell? ⟨P, 3, none⟩ = some (.slice p.xC p.nC p.cC)
theorem Box.same {w w' : World} {P : Nat} {p : Prob} (h : Box w P p) (hb : w'.heap[P]? = w.heap[P]?) (hs : w.heap.size ≤ w'.heap.size) : Box w' P p := by
  obtain ⟨h0, h1, h2, h3, h4⟩ := h
  unfold Box
  rw [World.cell?_of_block (a := ⟨P, 0, none⟩) hb, World.cell?_of_block (a := ⟨P, 1, none⟩) hb, World.cell?_of_block (a := ⟨P, 2, none⟩) hb, World.cell?_of_block (a := ⟨P, 3, none⟩) hb]
  exact ⟨by omega, h1, h2, h3, h4⟩
theorem Box.below {w w' : World} {P : Nat} {p : Prob} (h : Box w P p) (hb : Below w.heap.size w w') : Box w' P p := h.same (hb.block P h.1) hb.size

/-- A row that lies below hi. -/
def Under (v : Value) (hi : Nat) : Prop := ∀ g, v.ownBlock = some g → g < hi

/-- Behind the first if: the copy of Missing is made. -/
def Ph1 (w : World) (p : Prob) (b1 : Nat) (vD : Value) (w' : World) : Prop :=
  ∃ (y : Option Addr) (c : Nat), Box w' w.heap.size p ∧ QRow w' (w.heap.size + 1) vD (.slice y p.nM c) (.slice none 0 0) (.slice none 0 0) ∧ (y = none ↔ p.xM = none) ∧ w'.ownsRow b1 57 2 (.slice y p.nM c) p.nM (vals (p.nM * 2) (pair (fun j => .string (p.fM j)) (fun j => .string (p.tM j)))) ∧ Below w.heap.size w w' ∧ w'.ownsRow (w.heap.size + 2) 9 1 vD p.nD (vals p.nD fun j => .string (p.sD j)) ∧ b1 ≤ w'.heap.size

theorem QRow.below {w w' : World} {gq : Nat} {a b c d : Value} (h : QRow w gq a b c d) (hb : Below w.heap.size w w') : QRow w' gq a b c d := owns_below h hb
theorem QRow.set0 {w : World} {gq : Nat} {a b c d : Value} (h : QRow w gq a b c d) (u : Value) : QRow (w.setCell ⟨gq, 0, none⟩ u) gq u b c d := (h.stored 0 u).1
theorem QRow.set1 {w : World} {gq : Nat} {a b c d : Value} (h : QRow w gq a b c d) (u : Value) : QRow (w.setCell ⟨gq, 1, none⟩ u) gq a u c d := (h.stored 1 u).1
theorem QRow.set2 {w : World} {gq : Nat} {a b c d : Value} (h : QRow w gq a b c d) (u : Value) : QRow (w.setCell ⟨gq, 2, none⟩ u) gq a b u d := (h.stored 2 u).1
theorem QRow.set3 {w : World} {gq : Nat} {a b c d : Value} (h : QRow w gq a b c d) (u : Value) : QRow (w.setCell ⟨gq, 3, none⟩ u) gq a b c u := (h.stored 3 u).1
theorem owns_set {w : World} {B e s n : Nat} {v : Value} {xs : List Value} (h : w.ownsRow B e s v n xs) {a : Addr} (u : Value) (hne : v.ownBlock ≠ some a.block) : (w.setCell a u).ownsRow B e s v n xs :=
  owns_same h fun g hg => Below.heap_setCell w a u g (fun e => hne (by rw [hg, e]))
theorem owns_set_lt {w : World} {B e s n : Nat} {v : Value} {xs : List Value} (h : w.ownsRow B e s v n xs) {a : Addr} (u : Value) (hlt : a.block < B) : (w.setCell a u).ownsRow B e s v n xs :=
  owns_set h u fun e => by have := (h.lt a.block e).1; omega
theorem Box.set {w : World} {P : Nat} {p : Prob} (h : Box w P p) {a : Addr} (u : Value) (hne : P ≠ a.block) : Box (w.setCell a u) P p := h.same (Below.heap_setCell w a u P hne) (by simp)
theorem start7 (w : World) (p : Prob) : Box ((w.alloc (.cells #[.slice p.xD p.nD p.cD, .slice p.xM p.nM p.cM, .slice p.xS p.nS p.cS, .slice p.xC p.nC p.cC] 28)).alloc (.cells #[.slice none 0 0, .slice none 0 0, .slice none 0 0, .slice none 0 0] 56)) w.heap.size p ∧
    QRow ((w.alloc (.cells #[.slice p.xD p.nD p.cD, .slice p.xM p.nM p.cM, .slice p.xS p.nS p.cS, .slice p.xC p.nC p.cC] 28)).alloc (.cells #[.slice none 0 0, .slice none 0 0, .slice none 0 0, .slice none 0 0] 56)) (w.heap.size + 1) (.slice none 0 0) (.slice none 0 0) (.slice none 0 0) (.slice none 0 0) := by
  refine ⟨⟨by simp; omega, by simp, by simp, by simp, by simp⟩, ?_⟩
  have := World.ownsRow_lit (base := w.heap.size + 1) (e := 56) (size := 4) (w.alloc (.cells #[.slice p.xD p.nD p.cD, .slice p.xM p.nM p.cM, .slice p.xS p.nS p.cS, .slice p.xC p.nC p.cC] 28)) #[.slice none 0 0, .slice none 0 0, .slice none 0 0, .slice none 0 0] 1 (by simp) (by unfold maxLen; omega) rfl
  simpa using this

/-- Two cells more of a row of pairs. -/
theorem pair_step {w : World} {B e n c k : Nat} {xs : List Value} {f g : Nat → Value} (h : w.ownsRow B e 2 (.slice (some ⟨B, 0, none⟩) n c) n xs) (hx : ∀ j, j < k * 2 → xs[j]? = some (pair f g j)) (hk : k < n) :
    ((w.setCell ⟨B, k * 2, none⟩ (f k)).setCell ⟨B, k * 2 + 1, none⟩ (g k)).ownsRow B e 2 (.slice (some ⟨B, 0, none⟩) n c) n ((xs.set (k * 2) (f k)).set (k * 2 + 1) (g k)) ∧ ∀ j, j < (k + 1) * 2 → ((xs.set (k * 2) (f k)).set (k * 2 + 1) (g k))[j]? = some (pair f g j) := by
  have hl := h.1
  refine ⟨((h.stored _ _).1.stored _ _).1, fun j hj => ?_⟩
  by_cases e1 : j = k * 2 + 1
  · subst e1; rw [List.getElem?_set_self (by simp; omega), pair_1]
  · rw [List.getElem?_set_ne (by omega)]
    by_cases e2 : j = k * 2
    · subst e2; rw [List.getElem?_set_self (by omega), pair_0]
    · rw [List.getElem?_set_ne (by omega)]; exact hx j (by omega)

/-- The numbers and values of a copied Problems. -/
structure QV where
  yD : Option Addr
  cD : Nat
  yM : Option Addr
  cM : Nat
  yS : Option Addr
  cS : Nat
  yC : Option Addr
  cC : Nat
  y : Nat → Option Addr
  kc : Nat → Nat
  b1 : Nat
  b2 : Nat
  b3 : Nat
def QV.vD (v : QV) (p : Prob) : Value := .slice v.yD p.nD v.cD
def QV.vM (v : QV) (p : Prob) : Value := .slice v.yM p.nM v.cM
def QV.vS (v : QV) (p : Prob) : Value := .slice v.yS p.nS v.cS
def QV.vC (v : QV) (p : Prob) : Value := .slice v.yC p.nC v.cC
def edgesOf (p : Prob) : List Value := vals (p.nM * 2) (pair (fun j => .string (p.fM j)) (fun j => .string (p.tM j)))
/-- What lies in memory of a copied Problems: gq: the struct's block. -/
structure Copy (p : Prob) (gq : Nat) (v : QV) (w : World) : Prop where
  q : QRow w gq (v.vD p) (v.vM p) (v.vS p) (v.vC p)
  nD : v.yD = none ↔ p.xD = none
  nM : v.yM = none ↔ p.xM = none
  nS : v.yS = none ↔ p.xS = none
  nC : v.yC = none ↔ p.xC = none
  oD : w.ownsRow (gq + 1) 9 1 (v.vD p) p.nD (vals p.nD fun j => .string (p.sD j))
  uD : Under (v.vD p) v.b1
  oM : w.ownsRow v.b1 57 2 (v.vM p) p.nM (edgesOf p)
  uM : Under (v.vM p) v.b2
  oS : w.ownsRow v.b2 9 1 (v.vS p) p.nS (vals p.nS fun j => .string (p.sS j))
  uS : Under (v.vS p) v.b3
  rC : RdC w v.b3 v.yC p.nC v.y p.mC v.kc p.sC
  nY : ∀ j, j < p.nC → (v.y j = none ↔ p.yC j = none)
  l1 : gq < v.b1
  l2 : v.b1 ≤ v.b2
  l3 : v.b2 ≤ v.b3
  l4 : v.b3 ≤ w.heap.size
def MadeP (p : Prob) (w : World) (e : Ending) (w' : World) : Prop :=
  ∃ v : QV, e = .returned (.pointer (some ⟨w.heap.size + 1, 0, none⟩)) ∧ Below w.heap.size w w' ∧ Copy p (w.heap.size + 1) v w'

/-- One cell of an owned row, in a later world. -/
theorem one_cell {w W w' : World} {B e n c k : Nat} {xs : List Value} (h : w.ownsRow B e 1 (.slice (some ⟨B, 0, none⟩) n c) n xs) (hb : Below W.heap.size W w') (hk : k < n) (hW : W.heap = w.heap := by rfl) :
    ∃ o0, w'.cell? ⟨B, k, none⟩ = some o0 ∧ w'.frozen? ⟨B, k, none⟩ = false := by
  have h' : w'.ownsRow B e 1 (.slice (some ⟨B, 0, none⟩) n c) n xs := owns_same h fun g hg => by
    have := (h.lt g hg).2
    rw [hb.block g (by rw [hW]; exact this), hW]
  have hl := h.1
  exact ⟨xs[k]'(by omega), by rw [h'.cellAt _ (by omega)]; simp, h'.frozenAt _⟩

/-- The first k cycles are copied. -/
def CDone (p : Prob) (b3 : Nat) (w : World) (xs : List Value) (k : Nat) (y : Nat → Option Addr) (kc : Nat → Nat) : Prop :=
  ∀ j, j < k → xs[j]? = some (.slice (y j) (p.mC j) (kc j)) ∧ RdS w (b3 + 1) (y j) (p.mC j) (p.sC j) ∧ (y j = none ↔ p.yC j = none)
theorem cdone_step {p : Prob} {b3 k : Nat} {w8 wr W w9 : World} {xs : List Value} {y : Nat → Option Addr} {kc : Nat → Nat} {y9 : Option Addr} {c9 : Nat} (hown : wr.ownsRow b3 24 1 (.slice (some ⟨b3, 0, none⟩) p.nC p.nC) p.nC xs) (hd : CDone p b3 wr xs k y kc) (hbel : Below b3 w8 wr) (hk : k < p.nC)
    (hb9 : Below W.heap.size W w9) (hown9 : w9.ownsRow W.heap.size 9 1 (.slice y9 (p.mC k) c9) (p.mC k) (vals (p.mC k) fun j => .string (p.sC k j))) (hn9 : y9 = none ↔ p.yC k = none) (hW : Below wr.heap.size wr W) (hW' : W.heap = wr.heap) :
    Hid ((w9.setCell ⟨b3, k, none⟩ (.slice y9 (p.mC k) c9)).ownsRow b3 24 1 (.slice (some ⟨b3, 0, none⟩) p.nC p.nC) p.nC (xs.set k (.slice y9 (p.mC k) c9))) ∧
    Hid (CDone p b3 (w9.setCell ⟨b3, k, none⟩ (.slice y9 (p.mC k) c9)) (xs.set k (.slice y9 (p.mC k) c9)) (k + 1) (fun j => if j = k then y9 else y j) (fun j => if j = k then c9 else kc j)) ∧
    Hid (Below b3 w8 (w9.setCell ⟨b3, k, none⟩ (.slice y9 (p.mC k) c9))) := by
  have hlt : b3 < wr.heap.size := (hown.lt b3 rfl).2
  have hbw : Below wr.heap.size wr w9 := hW.trans (hb9.mono (by rw [hW']; exact Nat.le_refl _))
  have hsz : W.heap.size = wr.heap.size := by rw [hW']
  have hl := hown.1
  refine ⟨((owns_below hown hbw).stored _ _).1, ?_, (hbel.trans (hbw.mono (by omega))).setCell (Nat.le_refl _) _⟩
  have ha : Above (b3 + 1) wr (w9.setCell ⟨b3, k, none⟩ (.slice y9 (p.mC k) c9)) := (Above.of hbw).setCell _ (by show b3 < b3 + 1; omega) _
  have ha2 : Above (b3 + 1) w9 (w9.setCell ⟨b3, k, none⟩ (.slice y9 (p.mC k) c9)) := (Above.of (Below.refl _ w9)).setCell _ (by show b3 < b3 + 1; omega) _
  intro j hj
  by_cases e : j = k
  · subst e
    simp only [if_pos]
    refine ⟨?_, (Copied.rd (owns_base hown9 (by omega))).carry ha2 (Nat.le_refl _), hn9⟩
    rw [List.getElem?_set_self (by omega)]
  · simp only [if_neg e]
    obtain ⟨h1, h2, h3⟩ := hd j (by omega)
    refine ⟨?_, h2.carry ha (Nat.le_refl _), h3⟩
    rw [List.getElem?_set_ne (by omega)]; exact h1

set_option maxRecDepth 100000 in
set_option maxHeartbeats 4000000 in
theorem f7_any (p : Prob) (B : Nat) (w : World) (hp : p.Reads w B) (hf : p.Fits) :
    Calls Try.prog 7 #[.agg #[.slice p.xD p.nD p.cD, .slice p.xM p.nM p.cM, .slice p.xS p.nS p.cS, .slice p.xC p.nC p.cC]] w fun e w' => MadeP p w e w' := by
  obtain ⟨i0, hinf, hz0, hz1, hz2⟩ := info_parts info57
  obtain ⟨i1, hinf1, hy0, hy1, hy2⟩ := info_parts info24
  have q1 := neqnil 25 46 Try.underlying25
  have q2 := neqnil 26 24 Try.underlying26
  obtain ⟨hf1, hf2, hf3, hf4, hf5⟩ := hf
  have HP := hid hp
  have HF5 := hid hf5
  have hbx : Below w.heap.size w ((w.alloc (.cells #[.slice p.xD p.nD p.cD, .slice p.xM p.nM p.cM, .slice p.xS p.nS p.cS, .slice p.xC p.nC p.cC] 28)).alloc (.cells #[.slice none 0 0, .slice none 0 0, .slice none 0 0, .slice none 0 0] 56)) := ((Below.refl _ _).alloc (Nat.le_refl _) _).alloc (by simp) _
  have HBX := hid hbx
  clear hp hf5 hbx
  go_enter Try.func7, Try.ntmps7
  go_wp2_with fail
  refine (f17_any p.xD p.nD p.cD B p.sD _ (HP.out.1.below HBX.out) (by omega)).mono ?_
  rintro e w2 ⟨yD, cD, rfl, hnD, hb2, hownD⟩
  obtain ⟨hbox0, hq0⟩ := start7 w p
  have hbox2 := hbox0.below hb2
  have hq2 := hq0.below hb2
  have hP2 := hb2.size
  simp only [World.size_alloc] at hP2 hownD
  obtain ⟨g0, g1, g2, g3⟩ := hq2.cells
  have fz0 : w2.frozen? ⟨w.heap.size + 1, 0, none⟩ = false := hq2.frozenAt 0
  have HBX2 := hid (hbox2.set (a := ⟨w.heap.size + 1, 0, none⟩) (.slice yD p.nD cD) (by show w.heap.size ≠ w.heap.size + 1; omega))
  have HQ2 := hid (hq2.set0 (.slice yD p.nD cD))
  have HD2 := hid (owns_set_lt hownD (a := ⟨w.heap.size + 1, 0, none⟩) (.slice yD p.nD cD) (by show w.heap.size + 1 < w.heap.size + 1 + 1; omega))
  have HB2 := hid ((HBX.out.trans (hb2.mono HBX.out.size)).setCell (p := ⟨w.heap.size + 1, 0, none⟩) (by show w.heap.size ≤ w.heap.size + 1; omega) (.slice yD p.nD cD))
  obtain ⟨w3, hw3⟩ : ∃ w3, w2.setCell ⟨w.heap.size + 1, 0, none⟩ (.slice yD p.nD cD) = w3 := ⟨_, rfl⟩
  have hs3 : w.heap.size + 1 + 1 ≤ w3.heap.size := by rw [← hw3]; simpa using hP2
  rw [hw3] at HBX2 HQ2 HD2 HB2
  obtain ⟨-, e0, e1, e2, e3⟩ := HBX2.out
  have HUD : Hid (Under (.slice yD p.nD cD) w3.heap.size) := fun g hg => (HD2.out.lt g hg).2
  have HND := hid hnD
  clear hownD hbox0 hq0 hbox2 hq2 hb2 hnD
  go_upto_if 16 with fail
  go_cut [4] (fun _ wc => Ph1 w p w3.heap.size (.slice yD p.nD cD) wc)
  case first =>
    cases hMs : p.xM.isSome
    · have HM : Hid (p.xM = none) := by unfold Hid; simpa using hMs
      have HN0 : Hid (p.nM = 0) := by unfold Hid; have := HP.out.2.1; rw [HM.out] at this; exact this.nil
      go_wp2_with fail
      go_meet
      case rel => exact ⟨none, 0, HBX2.out, by rw [HN0.out]; exact HQ2.out, by simp [HM.out], by rw [HN0.out]; exact World.ownsRow_nil _ _ _ _, HB2.out, HD2.out, Nat.le_refl _⟩
    · have HM : Hid (p.xM ≠ none) := by unfold Hid; intro h; rw [h] at hMs; cases hMs
      go_wp2_with (refine wpList_make_full _ rfl (.tmp 20) (.tmp 20) 54 rfl w3.heap.size 57 i0 (.agg #[.string ByteArray.empty, .string ByteArray.empty]) 2 Try.underlying54 hinf hz0 hz1 .i64 .i64 _ _ p.nM rfl rfl rfl rfl (by rw [hz2]; omega) (by unfold maxLen; omega) (Nat.le_refl _) ?_; intro w4 hown4 hgr4; have hb4 : Below w3.heap.size w3 w4 := (Below.refl _ _).grown hgr4 (Nat.le_refl _) (by simp); have hq4 := HQ2.out.below hb4; have hx4 := HBX2.out.below hb4; have fz1 : w4.frozen? ⟨w.heap.size + 1, 1, none⟩ = false := hq4.frozenAt 1; have gq1 := hq4.cells.2.1; have HQ4 := hid (hq4.set1 (.slice (some ⟨w3.heap.size, 0, none⟩) p.nM p.nM)); have HBX4 := hid (hx4.set (a := ⟨w.heap.size + 1, 1, none⟩) (.slice (some ⟨w3.heap.size, 0, none⟩) p.nM p.nM) (by show w.heap.size ≠ w.heap.size + 1; omega)); have HO4 := hid (owns_set_lt hown4 (a := ⟨w.heap.size + 1, 1, none⟩) (.slice (some ⟨w3.heap.size, 0, none⟩) p.nM p.nM) (by show w.heap.size + 1 < _; omega)); have HD4 := hid (owns_set_lt (owns_below HD2.out hb4) (a := ⟨w.heap.size + 1, 1, none⟩) (.slice (some ⟨w3.heap.size, 0, none⟩) p.nM p.nM) (by show w.heap.size + 1 < w.heap.size + 1 + 1; omega)); have HB4 := hid ((HB2.out.trans (hb4.mono HB2.out.size)).setCell (p := ⟨w.heap.size + 1, 1, none⟩) (by show w.heap.size ≤ w.heap.size + 1; omega) (.slice (some ⟨w3.heap.size, 0, none⟩) p.nM p.nM)); clear hown4 hgr4 hb4 hq4 hx4)
      go_loopw [4] (fun i wr => ∃ (k : Nat) (xs : List Value), k ≤ p.nM ∧ i = .int .i64 k ∧ Hid (Box wr w.heap.size p) ∧ Hid (QRow wr (w.heap.size + 1) (.slice yD p.nD cD) (.slice (some ⟨w3.heap.size, 0, none⟩) p.nM p.nM) (.slice none 0 0) (.slice none 0 0)) ∧ Hid (wr.ownsRow w3.heap.size 57 2 (.slice (some ⟨w3.heap.size, 0, none⟩) p.nM p.nM) p.nM xs) ∧ Hid (∀ j, j < k * 2 → xs[j]? = some (pair (fun j => .string (p.fM j)) (fun j => .string (p.tM j)) j)) ∧ Hid (Below w.heap.size w wr) ∧ Hid (wr.ownsRow (w.heap.size + 2) 9 1 (.slice yD p.nD cD) p.nD (vals p.nD fun j => .string (p.sD j)))) (fun i _ => p.nM - (intOf i).toNat)
      case atStart => exact ⟨0, _, Nat.zero_le _, rfl, HBX4.out, HQ4.out, HO4.out, (fun j hj => absurd hj (by omega)), HB4.out, HD4.out⟩
      case round =>
        obtain ⟨k, xs, hk, rfl, RBX, RQ, RO, RX, RB, RD⟩ := hrel
        obtain ⟨hPl, e0', e1', e2', e3'⟩ := RBX.out
        obtain ⟨g0', g1', g2', g3'⟩ := RQ.out.cells
        have hltb : w3.heap.size < wr.heap.size := (RO.out.lt w3.heap.size rfl).2
        by_cases hlt : k < p.nM
        · obtain ⟨b, off, hx, -, hb, hc0, hc1⟩ := (HP.out.2.1.below RB.out).at2 hlt
          rw [hx] at e1'
          have HXX := hid hx
          clear hx
          have hik : (k : Int) < p.nM := by omega
          have hlx := RO.out.1
          obtain ⟨o0, hd0⟩ : ∃ o0, wr.cell? ⟨w3.heap.size, k * 2, none⟩ = some o0 := ⟨xs[k * 2]'(by omega), by rw [RO.out.cellAt (k * 2) (by omega)]; simp⟩
          obtain ⟨o1, hd1⟩ : ∃ o1, wr.cell? ⟨w3.heap.size, k * 2 + 1, none⟩ = some o1 := ⟨xs[k * 2 + 1]'(by omega), by rw [RO.out.cellAt (k * 2 + 1) (by omega)]; simp⟩
          have hf0 : wr.frozen? ⟨w3.heap.size, k * 2, none⟩ = false := RO.out.frozenAt _
          have hf1 : wr.frozen? ⟨w3.heap.size, k * 2 + 1, none⟩ = false := RO.out.frozenAt _
          clear hlx
          go_wp2_with fail
          go_region
          all_goals
            go_wp2_with fail
            go_roundw
            case rel =>
              have R := pair_step (f := fun j => .string (p.fM j)) (g := fun j => .string (p.tM j)) RO.out RX.out hlt
              refine ⟨k + 1, _, by omega, by go_num, ?_, ?_, R.1, R.2, ?_, ?_⟩
              · exact (RBX.out.set (a := ⟨w3.heap.size, k * 2, none⟩) _ (by show w.heap.size ≠ w3.heap.size; omega)).set (a := ⟨w3.heap.size, k * 2 + 1, none⟩) _ (by show w.heap.size ≠ w3.heap.size; omega)
              · exact owns_set (owns_set RQ.out _ (by simp [Value.ownBlock]; omega)) _ (by simp [Value.ownBlock]; omega)
              · exact (RB.out.setCell (p := ⟨w3.heap.size, k * 2, none⟩) (by show w.heap.size ≤ w3.heap.size; omega) _).setCell (p := ⟨w3.heap.size, k * 2 + 1, none⟩) (by show w.heap.size ≤ w3.heap.size; omega) _ |>.drew
              · exact owns_set (owns_set RD.out _ (fun h => Nat.lt_irrefl _ (HUD.out _ h))) _ (fun h => Nat.lt_irrefl _ (HUD.out _ h))
            case measure => simp [intOf]; omega
        · have hkn : k = p.nM := by omega
          subst hkn
          go_wp2_with fail
          go_meet
          case rel =>
            have hv := vals_of (n := p.nM * 2) (by simpa using RO.out.1) RX.out
            refine ⟨_, _, RBX.out, RQ.out, by simp [HM.out], ?_, RB.out, RD.out, by omega⟩
            rw [← hv]; exact RO.out
  case rest =>
    obtain ⟨yM, cM, hbx5, hq5, hnM, hoM5, hb5, hoD5, hl5⟩ := hcut
    have HNM := hid hnM
    have HPr := hid (HP.out.below hb5)
    have HBX5 := hid hbx5
    have HQ5 := hid hq5
    have HOM5 := hid hoM5
    have HB5 := hid hb5
    have HOD5 := hid hoD5
    obtain ⟨hPl5, e0', e1', e2', e3'⟩ := hbx5
    clear hnM hq5 hoM5 hb5 hoD5
    go_wp2_with fail
    refine (f17_any p.xS p.nS p.cS B p.sS _ HPr.out.2.2.1 (by omega)).mono ?_
    rintro e w5 ⟨yS, cS, rfl, hnS, hb6, hoS⟩
    have hs6 := hb6.size
    have hq6 := HQ5.out.below hb6
    have hbx6 := HBX5.out.below hb6
    have fz2 : w5.frozen? ⟨w.heap.size + 1, 2, none⟩ = false := hq6.frozenAt 2
    obtain ⟨-, -, g2'', -⟩ := hq6.cells
    have hPe := HBX5.out.1
    have HB7 := hid ((HB5.out.trans (hb6.mono HB5.out.size)).setCell (p := ⟨w.heap.size + 1, 2, none⟩) (by show w.heap.size ≤ w.heap.size + 1; omega) (.slice yS p.nS cS))
    have HBX7 := hid (hbx6.set (a := ⟨w.heap.size + 1, 2, none⟩) (.slice yS p.nS cS) (by show w.heap.size ≠ w.heap.size + 1; omega))
    have HQ7 := hid (hq6.set2 (.slice yS p.nS cS))
    have HOM7 := hid (owns_set_lt (owns_below HOM5.out hb6) (a := ⟨w.heap.size + 1, 2, none⟩) (.slice yS p.nS cS) (by show w.heap.size + 1 < w3.heap.size; omega))
    have HOD7 := hid (owns_set_lt (owns_below HOD5.out hb6) (a := ⟨w.heap.size + 1, 2, none⟩) (.slice yS p.nS cS) (by show w.heap.size + 1 < w.heap.size + 2; omega))
    have HOS7 := hid (owns_set_lt hoS (a := ⟨w.heap.size + 1, 2, none⟩) (.slice yS p.nS cS) (by show w.heap.size + 1 < wc.heap.size; omega))
    have HUM : Hid (Under (.slice yM p.nM cM) wc.heap.size) := fun g hg => (HOM5.out.lt g hg).2
    obtain ⟨w6, hw6⟩ : ∃ w6, w5.setCell ⟨w.heap.size + 1, 2, none⟩ (.slice yS p.nS cS) = w6 := ⟨_, rfl⟩
    have hs7 : wc.heap.size ≤ w6.heap.size := by rw [← hw6]; simpa using hs6
    rw [hw6] at HB7 HBX7 HQ7 HOM7 HOD7 HOS7
    have HUS : Hid (Under (.slice yS p.nS cS) w6.heap.size) := fun g hg => (HOS7.out.lt g hg).2
    obtain ⟨hPl7, e0'', e1'', e2'', e3''⟩ := HBX7.out
    have HNS := hid hnS
    clear hq6 hbx6 hb6 hoS hnS
    cases hCs : p.xC.isSome
    · have HC : Hid (p.xC = none) := by unfold Hid; simpa using hCs
      have HN0 : Hid (p.nC = 0) := by unfold Hid; have := HP.out.2.2.2.1; rw [HC.out] at this; exact this.nil
      go_wp2_with fail
      go_ret
      refine ⟨{ yD := yD, cD := cD, yM := yM, cM := cM, yS := yS, cS := cS, yC := none, cC := 0, y := p.yC, kc := p.kC, b1 := w3.heap.size, b2 := wc.heap.size, b3 := w6.heap.size }, rfl, HB7.out, ?_⟩
      exact { q := by unfold QV.vC; rw [HN0.out]; exact HQ7.out, nD := HND.out, nM := HNM.out, nS := HNS.out, nC := by simp [HC.out], oD := HOD7.out, uD := HUD.out, oM := HOM7.out, uM := HUM.out, oS := HOS7.out, uS := HUS.out, rC := (by rw [HN0.out]; exact ⟨(fun h => by omega), fun j hj => absurd hj (Nat.not_lt_zero _)⟩), nY := fun j hj => absurd (HN0.out ▸ hj) (Nat.not_lt_zero j), l1 := by show w.heap.size + 1 < w3.heap.size; omega, l2 := hl5, l3 := hs7, l4 := Nat.le_refl _ }
    · have HC : Hid (p.xC ≠ none) := by unfold Hid; intro h; rw [h] at hCs; cases hCs
      go_wp2_with (refine wpList_make_full _ rfl (.tmp 62) (.tmp 62) 26 rfl w6.heap.size 24 i1 (.slice none 0 0) 1 Try.underlying26 hinf1 hy0 hy1 .i64 .i64 _ _ p.nC rfl rfl rfl rfl (by rw [hy2]; omega) (by unfold maxLen; omega) (Nat.le_refl _) ?_; intro w7 hown7 hgr7; have hb7 : Below w6.heap.size w6 w7 := (Below.refl _ _).grown hgr7 (Nat.le_refl _) (by simp); have hq7 := HQ7.out.below hb7; have fz3 : w7.frozen? ⟨w.heap.size + 1, 3, none⟩ = false := hq7.frozenAt 3; have gq3 := hq7.cells.2.2.2; have HB8 := hid hb7; have HO8 := hid hown7; clear hown7 hgr7 hb7 hq7)
      have hs8 := HB8.out.size
      have HQ8 := hid ((HQ7.out.below HB8.out).set3 (.slice (some ⟨w6.heap.size, 0, none⟩) p.nC p.nC))
      have HBX8 := hid ((HBX7.out.below HB8.out).set (a := ⟨w.heap.size + 1, 3, none⟩) (.slice (some ⟨w6.heap.size, 0, none⟩) p.nC p.nC) (by show w.heap.size ≠ w.heap.size + 1; omega))
      have HOM8 := hid (owns_set_lt (owns_below HOM7.out HB8.out) (a := ⟨w.heap.size + 1, 3, none⟩) (.slice (some ⟨w6.heap.size, 0, none⟩) p.nC p.nC) (by show w.heap.size + 1 < w3.heap.size; omega))
      have HOD8 := hid (owns_set_lt (owns_below HOD7.out HB8.out) (a := ⟨w.heap.size + 1, 3, none⟩) (.slice (some ⟨w6.heap.size, 0, none⟩) p.nC p.nC) (by show w.heap.size + 1 < w.heap.size + 2; omega))
      have HOS8 := hid (owns_set_lt (owns_below HOS7.out HB8.out) (a := ⟨w.heap.size + 1, 3, none⟩) (.slice (some ⟨w6.heap.size, 0, none⟩) p.nC p.nC) (by show w.heap.size + 1 < wc.heap.size; omega))
      have HOC8 := hid (owns_set_lt HO8.out (a := ⟨w.heap.size + 1, 3, none⟩) (.slice (some ⟨w6.heap.size, 0, none⟩) p.nC p.nC) (by show w.heap.size + 1 < w6.heap.size; omega))
      have HBW8 := hid ((HB7.out.trans (HB8.out.mono HB7.out.size)).setCell (p := ⟨w.heap.size + 1, 3, none⟩) (by show w.heap.size ≤ w.heap.size + 1; omega) (.slice (some ⟨w6.heap.size, 0, none⟩) p.nC p.nC))
      obtain ⟨w8, hw8⟩ : ∃ w8, w7.setCell ⟨w.heap.size + 1, 3, none⟩ (.slice (some ⟨w6.heap.size, 0, none⟩) p.nC p.nC) = w8 := ⟨_, rfl⟩
      rw [hw8] at HQ8 HBX8 HOM8 HOD8 HOS8 HOC8 HBW8 ⊢
      clear hw8
      go_loopw [5] (fun i wr => ∃ (k : Nat) (xs : List Value) (y : Nat → Option Addr) (kc : Nat → Nat), k ≤ p.nC ∧ i = .int .i64 k ∧ Hid (wr.ownsRow w6.heap.size 24 1 (.slice (some ⟨w6.heap.size, 0, none⟩) p.nC p.nC) p.nC xs) ∧ Hid (CDone p w6.heap.size wr xs k y kc) ∧ Hid (Below w6.heap.size w8 wr)) (fun i _ => p.nC - (intOf i).toNat)
      case atStart => exact ⟨0, _, p.yC, p.kC, Nat.zero_le _, rfl, HOC8.out, (fun j hj => absurd hj (by omega)), Below.refl _ _⟩
      case round =>
        obtain ⟨k, xs, y, kc, hk, rfl, RO, RD, RB⟩ := hrel
        have hltb : w6.heap.size < wr.heap.size := (RO.out.lt w6.heap.size rfl).2
        have hBX := HBX8.out.same (w' := wr) (RB.out.block _ (by omega)) RB.out.size
        have hQ : QRow wr (w.heap.size + 1) (.slice yD p.nD cD) (.slice yM p.nM cM) (.slice yS p.nS cS) (.slice (some ⟨w6.heap.size, 0, none⟩) p.nC p.nC) := owns_same HQ8.out fun g hg => RB.out.block g (by simp [Value.ownBlock] at hg; omega)
        have hBW : Below w.heap.size w wr := HBW8.out.trans (RB.out.mono (by omega))
        have HBW := hid hBW
        have HBXr := hid hBX
        have HQr := hid hQ
        clear hBW hBX hQ
        obtain ⟨-, -, -, -, e3r⟩ := HBXr.out
        obtain ⟨-, -, -, g3r⟩ := HQr.out.cells
        by_cases hlt : k < p.nC
        · obtain ⟨b, off, hx, -, hb, hc0⟩ := (HP.out.2.2.2.1.below HBW.out).at1 hlt
          have HRC := hid ((HP.out.2.2.2.2 k hlt).below HBW.out)
          rw [hx] at e3r
          clear hx
          have hik : (k : Int) < p.nC := by omega
          have hm6 := HF5.out k hlt
          go_wp2_with fail
          go_region_with (go_at_call 17; refine (f17_any (p.yC k) (p.mC k) (p.kC k) B (p.sC k) _ (by exact HRC.out) (by omega)).mono ?_; rintro e w9 ⟨y9, c9, rfl, hn9, hb9, ho9⟩; obtain ⟨o0, hd0, hf0⟩ := one_cell RO.out hb9 hlt; have hcx : w9.cell? ⟨b, off + k, none⟩ = some (.slice (p.yC k) (p.mC k) (p.kC k)) := (hb9.cell (p := ⟨b, off + k, none⟩) hb).trans hc0; have e3x : w9.cell? ⟨w.heap.size, 3, none⟩ = some (.slice (some ⟨b, off, none⟩) p.nC p.cC) := (hb9.cell (p := ⟨w.heap.size, 3, none⟩) (by exact HBXr.out.1)).trans e3r; have g3x : w9.cell? ⟨w.heap.size + 1, 3, none⟩ = some (.slice (some ⟨w6.heap.size, 0, none⟩) p.nC p.nC) := (hb9.cell (p := ⟨w.heap.size + 1, 3, none⟩) (by exact (HQr.out.lt _ rfl).2)).trans g3r; have HB9 := hid hb9; have HO9 := hid ho9; have HN9 := hid hn9; clear hb9 ho9 hn9)
          all_goals
            go_wp2_with fail
            go_roundw
            case rel =>
              have R := cdone_step RO.out RD.out RB.out hlt HB9.out HO9.out HN9.out (by first | exact Below.refl _ _ | exact (Below.refl _ _).drew) rfl
              exact ⟨k + 1, _, _, _, by omega, by go_num, R.1, R.2.1, R.2.2⟩
            case measure => simp [intOf]; omega
        · have hkn : k = p.nC := by omega
          subst hkn
          go_wp2_with fail
          go_ret
          refine ⟨{ yD := yD, cD := cD, yM := yM, cM := cM, yS := yS, cS := cS, yC := some ⟨w6.heap.size, 0, none⟩, cC := p.nC, y := y, kc := kc, b1 := w3.heap.size, b2 := wc.heap.size, b3 := w6.heap.size }, rfl, HBW.out, ?_⟩
          exact { q := HQr.out, nD := HND.out, nM := HNM.out, nS := HNS.out, nC := by simp [HC.out], oD := owns_same HOD8.out (fun g hg => RB.out.block g (by have := HUD.out g hg; omega)), uD := HUD.out, oM := owns_same HOM8.out (fun g hg => RB.out.block g (by have := HUM.out g hg; omega)), uM := HUM.out, oS := owns_same HOS8.out (fun g hg => RB.out.block g (HUS.out g hg)), uS := HUS.out, rC := ⟨rd_of_owns RO.out fun j hj => (RD.out j (by omega)).1, fun j hj => (RD.out j hj).2.1.carry (.of (Below.refl _ _)) (by show w6.heap.size ≤ w6.heap.size + 1; omega)⟩, nY := fun j hj => (RD.out j hj).2.2, l1 := by show w.heap.size + 1 < w3.heap.size; omega, l2 := hl5, l3 := hs7, l4 := by show w6.heap.size ≤ wr.heap.size; omega }
end Go.Proofs.Qxb6603999a.CopyP

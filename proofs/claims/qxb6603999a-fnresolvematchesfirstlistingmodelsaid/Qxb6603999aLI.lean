import Derived.Test.Qxb6603999aSum
import Derived.Test.Qxb6603999aDepsO
import Derived.Test.Qxb6603999aAft
import Derived.Test.Qxb6603999aCopyN
namespace Go.Proofs.Qxb6603999a.Law
open Go.RowKit Go.Proofs.Qxb6603999a.Common Go.Proofs.Qxb6603999a.Model Go.Proofs.Qxb6603999a.Target Go.Proofs.Qxb6603999a.Fit Go.Proofs.Qxb6603999a.IdxFits Go.Proofs.Qxb6603999a.Deps Go.Proofs.Qxb6603999a.Miss Go.Proofs.Qxb6603999a.CopyP Go.Proofs.Qxb6603999a.Res Go.Proofs.Qxb6603999a.Got Go.Proofs.Qxb6603999a.Sum Go.Proofs.Qxb6603999a.DepsO Go.Proofs.Qxb6603999a.Aft

/-- The same nodes, elsewhere. -/
def like (a : Nds) (x : Option Addr) (c : Nat) (y : Nat → Option Addr) (k : Nat → Nat) : Nds := { a with x := x, c := c, y := y, k := k }
theorem got_back {a : Nds} {x : Option Addr} {c : Nat} {y : Nat → Option Addr} {k : Nat → Nat} {ok : ByteArray → Bool} {val : ByteArray → Int} {p : Prob} {gq : Nat} {q : QV} {B0 : Nat} {g : Gv} {w : World} (h : Got (like a x c y k) ok val p gq q B0 g w) : Got a ok val p gq q B0 g w :=
  { rd := h.rd, rdi := h.rdi, ndi := h.ndi, re := h.re, rei := h.rei, nei := h.nei, lq := h.lq, q0 := h.q0, q1 := h.q1, q2 := h.q2, q3 := h.q3, rM := h.rM, nM := h.nM, rS := h.rS, nS := h.nS, rD := h.rD, rC := h.rC }

/-- Rows of other element types lie in other blocks. -/
theorem ne_type {w : World} {B e s n B' e' s' n' : Nat} {v v' : Value} {xs xs' : List Value} (h : w.ownsRow B e s v n xs) (h' : w.ownsRow B' e' s' v' n' xs') (hne : e ≠ e') : v.ownBlock = none ∨ v.ownBlock ≠ v'.ownBlock := by
  rcases h.2 with ⟨h1, _⟩ | ⟨g, cap, cur, h1, _, h2, _⟩
  · left; rw [h1]; rfl
  · right
    rcases h'.2 with ⟨h3, _⟩ | ⟨g', cap', cur', h3, _, h4, _⟩
    · rw [h1, h3]; simp [Value.ownBlock]
    · rw [h1, h3]; simp only [Value.ownBlock, ne_eq, Option.some.injEq]
      intro e0; subst e0; rw [h2] at h4; simp at h4; exact hne h4.2

structure LI (a : Nds) (ok : ByteArray → Bool) (val : ByteArray → Int) (gw : Nat) (W8 wr : World) (i : Nat) (vA vB : Value) (lA : List (ByteArray × ByteArray)) (lB : List ByteArray) (xs : List Value) (vw : Nat → Value) : Prop where
  want : wr.ownsRow gw 39 1 (.slice (some ⟨gw, 0, none⟩) a.n a.n) a.n xs
  rows : ∀ j, j < i → xs[j]? = some (vw j) ∧ wr.ownsRow gw 3 1 (vw j) (D a ok val j (a.m j)).length (ints (D a ok val j (a.m j)))
  oA : wr.ownsRow gw 46 2 vA lA.length (edg lA)
  oB : wr.ownsRow gw 9 1 vB lB.length (strs lB)
  bel : Below gw W8 wr

variable {a : Nds} {ok : ByteArray → Bool} {val : ByteArray → Int} {gw : Nat} {W8 wr : World} {i : Nat} {vA vB : Value} {lA : List (ByteArray × ByteArray)} {lB : List ByteArray} {xs : List Value} {vw : Nat → Value}

theorem LI.lt (h : LI a ok val gw W8 wr i vA vB lA lB xs vw) : gw < wr.heap.size := (h.want.lt gw rfl).2
theorem LI.below {w' : World} (h : LI a ok val gw W8 wr i vA vB lA lB xs vw) (hb : Below wr.heap.size wr w') : LI a ok val gw W8 w' i vA vB lA lB xs vw :=
  { want := owns_below h.want hb, rows := fun j hj => ⟨(h.rows j hj).1, owns_below (h.rows j hj).2 hb⟩, oA := owns_below h.oA hb, oB := owns_below h.oB hb, bel := h.bel.trans (hb.mono (Nat.le_of_lt h.lt)) }
/-- want[i] is stored. -/
theorem LI.row (h : LI a ok val gw W8 wr i vA vB lA lB xs vw) (hi : i < a.n) {v : Value} (ho : wr.ownsRow gw 3 1 v (D a ok val i (a.m i)).length (ints (D a ok val i (a.m i)))) :
    LI a ok val gw W8 (wr.setCell ⟨gw, i, none⟩ v) (i + 1) vA vB lA lB (xs.set i v) (fun j => if j = i then v else vw j) := by
  obtain ⟨h1, h2⟩ := h.want.stored i v
  have hl := h.want.1
  refine { want := h1, rows := fun j hj => ?_, oA := h.oA.kept h2 (ne_type h.oA h.want (by decide)), oB := h.oB.kept h2 (ne_type h.oB h.want (by decide)), bel := h.bel.grown h2 (Nat.le_of_lt h.lt) (fun k hk => by cases hk; exact Nat.le_refl _) }
  by_cases e : j = i
  · subst e
    simp only [if_pos]
    exact ⟨by rw [List.getElem?_set_self (by omega)], ho.kept h2 (ne_type ho h.want (by decide))⟩
  · simp only [if_neg e]
    obtain ⟨r1, r2⟩ := h.rows j (by omega)
    exact ⟨by rw [List.getElem?_set_ne (by omega)]; exact r1, r2.kept h2 (ne_type r2 h.want (by decide))⟩
theorem LI.addA {w' : World} {v' : Value} {lA' : List (ByteArray × ByteArray)} (h : LI a ok val gw W8 wr i vA vB lA lB xs vw) (hg : wr.grownBy w' vA.ownBlock) (ho : w'.ownsRow gw 46 2 v' lA'.length (edg lA')) : LI a ok val gw W8 w' i v' vB lA' lB xs vw :=
  { want := h.want.kept hg (ne_type h.want h.oA (by decide)), rows := fun j hj => ⟨(h.rows j hj).1, (h.rows j hj).2.kept hg (ne_type (h.rows j hj).2 h.oA (by decide))⟩, oA := ho, oB := h.oB.kept hg (ne_type h.oB h.oA (by decide)), bel := h.bel.grown hg (Nat.le_of_lt h.lt) (fun k hk => (h.oA.lt k hk).1) }
theorem LI.addB {w' : World} {v' : Value} {lB' : List ByteArray} (h : LI a ok val gw W8 wr i vA vB lA lB xs vw) (hg : wr.grownBy w' vB.ownBlock) (ho : w'.ownsRow gw 9 1 v' lB'.length (strs lB')) : LI a ok val gw W8 w' i vA v' lA lB' xs vw :=
  { want := h.want.kept hg (ne_type h.want h.oB (by decide)), rows := fun j hj => ⟨(h.rows j hj).1, (h.rows j hj).2.kept hg (ne_type (h.rows j hj).2 h.oB (by decide))⟩, oA := h.oA.kept hg (ne_type h.oA h.oB (by decide)), oB := ho, bel := h.bel.grown hg (Nat.le_of_lt h.lt) (fun k hk => (h.oB.lt k hk).1) }
theorem LI.start {w' : World} (hown : w'.ownsRow gw 39 1 (.slice (some ⟨gw, 0, none⟩) a.n a.n) a.n xs) (hb : Below gw W8 w') : LI a ok val gw W8 w' 0 (.slice none 0 0) (.slice none 0 0) [] [] xs vw :=
  { want := hown, rows := fun j hj => absurd hj (by omega), oA := World.ownsRow_nil _ _ _ _, oB := World.ownsRow_nil _ _ _ _, bel := hb }

theorem take_next (l : List (ByteArray × ByteArray)) {k : Nat} (h : k < l.length) : l.take (k + 1) = l.take k ++ [l.getD k noEdge] := by
  rw [List.take_add_one, List.getElem?_eq_getElem h, List.getD_eq_getElem?_getD, List.getElem?_eq_getElem h]; rfl
theorem LI.alloc (h : LI a ok val gw W8 wr i vA vB lA lB xs vw) (o : Obj) : LI a ok val gw W8 (wr.alloc o) i vA vB lA lB xs vw := h.below ((Below.refl _ _).alloc (Nat.le_refl _) _)
theorem LI.appA {w' : World} {v' : Value} {o : Obj} {f t : ByteArray} (h : LI a ok val gw W8 wr i vA vB lA lB xs vw) (hown : w'.ownsRow gw 46 2 v' (lA.length + 1) (edg lA ++ [.string f, .string t])) (hg : (wr.alloc o).grownBy w' vA.ownBlock) : LI a ok val gw W8 w' i v' vB (lA ++ [(f, t)]) lB xs vw :=
  (h.alloc o).addA hg (by rw [edg_snoc, List.length_append]; exact hown)
theorem LI.appB {w' : World} {v' : Value} {o : Obj} {x : ByteArray} (h : LI a ok val gw W8 wr i vA vB lA lB xs vw) (hown : w'.ownsRow gw 9 1 v' (lB.length + 1) (strs lB ++ [.string x])) (hg : (wr.alloc o).grownBy w' vB.ownBlock) : LI a ok val gw W8 w' i vA v' lA (lB ++ [x]) xs vw :=
  (h.alloc o).addB hg (by rw [strs_snoc, List.length_append]; exact hown)
theorem above_app {s : Nat} {w0 w1 w' : World} {o : Obj} {r : Option Nat} (h : Above s w0 w1) (hg : (w1.alloc o).grownBy w' r) (hr : ∀ g, r = some g → g < s ∨ w0.heap.size ≤ g) : Above s w0 w' := by
  have hs := hg.size
  rw [World.size_alloc] at hs
  refine ⟨by have := h.1; omega, fun b hb hlt => ?_⟩
  have h1 := h.1
  rw [hg.block b (by rw [World.size_alloc]; omega) (fun e => by have := hr b e.symm; omega), Below.heap_alloc w1 o b (by omega)]
  exact h.2 b hb hlt
theorem app_at {s S n : Nat} {v v' : Value} (h : ∀ g, v.ownBlock = some g → g < s ∨ S ≤ g) (hat : v'.ownBlock = v.ownBlock ∨ v'.ownBlock = some n) (hn : S ≤ n) : ∀ g, v'.ownBlock = some g → g < s ∨ S ≤ g := by
  intro g hg
  rcases hat with e | e
  · exact h g (by rw [← e]; exact hg)
  · rw [e] at hg; cases hg; exact .inr hn
theorem str_one (x : ByteArray) : ∀ u ∈ [Value.string x], u.oneCell' = true := by
  intro u hu
  simp only [List.mem_cons, List.not_mem_nil, or_false] at hu
  subst hu; rfl
theorem want_cell (h : LI a ok val gw W8 wr i vA vB lA lB xs vw) {k : Nat} (hk : k < a.n) : ∃ o0, wr.cell? ⟨gw, k, none⟩ = some o0 ∧ wr.frozen? ⟨gw, k, none⟩ = false := by
  have hl := h.want.1
  exact ⟨xs[k]'(by omega), by rw [h.want.cellAt _ (by omega)]; simp, h.want.frozenAt _⟩
theorem row_cell (h : LI a ok val gw W8 wr i vA vB lA lB xs vw) {k : Nat} (hi : i ≤ a.n) (hk : k < i) : wr.cell? ⟨gw, k, none⟩ = some (vw k) := by
  rw [h.want.cellAt _ (by omega)]; exact (h.rows k hk).1
theorem row_read (h : LI a ok val gw W8 wr i vA vB lA lB xs vw) {k : Nat} (hk : k < i) : vw k = .slice (adr (vw k)) (D a ok val k (a.m k)).length (cp (vw k)) ∧ RdI wr 0 (adr (vw k)) (D a ok val k (a.m k)).length (fun j => (D a ok val k (a.m k)).getD j 0) := by
  have ho := (h.rows k hk).2
  refine ⟨adr_of ho, ?_⟩
  rw [adr_of ho] at ho
  exact rd_base (rd_of_owns ho fun j hj => ints_at (by omega))
end Go.Proofs.Qxb6603999a.Law

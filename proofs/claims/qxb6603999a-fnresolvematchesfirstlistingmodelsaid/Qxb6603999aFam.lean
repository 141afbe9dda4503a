import Derived.Test.Qxb6603999aSet
namespace Go.Proofs.Qxb6603999a.Fam
open Go.RowKit Go.Proofs.Qxb6603999a.Common Go.Proofs.Qxb6603999a.MSet

def upd {α : Type} (f : Nat → α) (j : Nat) (x : α) : Nat → α := fun i => if i = j then x else f i
theorem upd_same {α : Type} (f : Nat → α) (j : Nat) (x : α) : upd f j x j = x := if_pos rfl
theorem upd_ne {α : Type} (f : Nat → α) {i j : Nat} (x : α) (h : i ≠ j) : upd f j x i = f i := if_neg h

/-- What does not turn: the rows' bases, element types, cells an element; which were nil at the start, and how long they were. -/
structure Sh where
  K : Nat
  bs : Nat → Nat
  es : Nat → Nat
  ss : Nat → Nat
  z : Nat → Prop
  n0 : Nat → Nat
  A : Nat → Prop
  gM : Nat

/-- What the call's own memory holds: rows in blocks of their own, a set of listings; nothing else has turned since w0. -/
structure St (S : Sh) (w0 w : World) (v : Nat → Value) (n : Nat → Nat) (xs : Nat → List Value) (m : Nat) (f : Nat → ByteArray → Bool) : Prop where
  own : ∀ j, j < S.K → w.ownsRow (S.bs j) (S.es j) (S.ss j) (v j) (n j) (xs j)
  apart : ∀ i j, i < S.K → j < S.K → i ≠ j → ∀ g, (v i).ownBlock = some g → (v j).ownBlock ≠ some g
  may : ∀ j g, j < S.K → (v j).ownBlock = some g → S.A g
  nil : ∀ j, j < S.K → S.n0 j ≤ n j ∧ (v j = .slice none 0 0 ↔ S.z j ∧ n j = S.n0 j)
  has : Has w S.gM m f
  gm : S.A S.gM
  os : w.os = w0.os
  tape : w.tape = w0.tape
  output : w.output = w0.output
  size : w0.heap.size ≤ w.heap.size
  block : ∀ b, b < w0.heap.size → ¬ S.A b → w.heap[b]? = w0.heap[b]?
  new : ∀ b, w0.heap.size ≤ b → S.A b

variable {S : Sh} {w0 w : World} {v : Nat → Value} {n : Nat → Nat} {xs : Nat → List Value} {m : Nat} {f : Nat → ByteArray → Bool}

theorem St.alloc (h : St S w0 w v n xs m f) (o : Obj) : St S w0 (w.alloc o) v n xs m f :=
  { own := fun j hj => (h.own j hj).alloc o, apart := h.apart, may := h.may, nil := h.nil, has := h.has.alloc o, gm := h.gm, os := h.os, tape := h.tape, output := h.output,
    size := by have := h.size; simp; omega, block := fun b hb hA => (Below.heap_alloc w o b (Nat.lt_of_lt_of_le hb h.size)).trans (h.block b hb hA), new := h.new }
theorem St.drew (h : St S w0 w v n xs m f) : St S w0 w.drew v n xs m f :=
  { own := fun j hj => (h.own j hj).drew, apart := h.apart, may := h.may, nil := h.nil, has := h.has, gm := h.gm, os := h.os, tape := h.tape, output := h.output, size := h.size, block := h.block, new := h.new }

/-- Row j has turned, and nothing else. -/
theorem St.turn {w' : World} (h : St S w0 w v n xs m f) {j : Nat} (hj : j < S.K) {v' : Value} {n' : Nat} {xs' : List Value} (hg : w.grownBy w' (v j).ownBlock) (hown : w'.ownsRow (S.bs j) (S.es j) (S.ss j) v' n' xs')
    (hat : v'.ownBlock = (v j).ownBlock ∨ ∃ g, v'.ownBlock = some g ∧ w.heap.size ≤ g) (hnil : S.n0 j ≤ n' ∧ (v' = .slice none 0 0 ↔ S.z j ∧ n' = S.n0 j)) :
    St S w0 w' (upd v j v') (upd n j n') (upd xs j xs') m f := by
  refine { own := fun i hi => ?_, apart := fun i k hi hk hne g hgi => ?_, may := fun i g hi hgi => ?_, nil := fun i hi => ?_, has := h.has.kept hg (fun e => h.has.ne (h.own j hj) e.symm), gm := h.gm, os := hg.os.trans h.os, tape := hg.tape.trans h.tape, output := hg.output.trans h.output, size := Nat.le_trans h.size hg.size, block := fun b hb hA => ?_, new := h.new }
  · by_cases e : i = j
    · subst e; rw [upd_same, upd_same, upd_same]; exact hown
    · rw [upd_ne _ _ e, upd_ne _ _ e, upd_ne _ _ e]
      refine (h.own i hi).kept hg ?_
      cases hb : (v i).ownBlock with
      | none => exact .inl rfl
      | some g => right; intro e2; exact h.apart i j hi hj e g hb e2.symm
  · by_cases e1 : i = j
    · subst e1
      rw [upd_same] at hgi
      rw [upd_ne _ _ (Ne.symm hne)]
      intro hgk
      rcases hat with ha | ⟨g', ha, hge⟩
      · rw [ha] at hgi; exact h.apart i k hi hk hne g hgi hgk
      · rw [ha] at hgi; cases hgi
        have := ((h.own k hk).lt _ hgk).2
        omega
    · rw [upd_ne _ _ e1] at hgi
      by_cases e2 : k = j
      · subst e2
        rw [upd_same]
        intro hgk
        rcases hat with ha | ⟨g', ha, hge⟩
        · rw [ha] at hgk; exact h.apart i k hi hk hne g hgi hgk
        · rw [ha] at hgk; cases hgk
          have := ((h.own i hi).lt _ hgi).2
          omega
      · rw [upd_ne _ _ e2]; exact h.apart i k hi hk hne g hgi
  · by_cases e : i = j
    · subst e
      rw [upd_same] at hgi
      rcases hat with ha | ⟨g', ha, hge⟩
      · rw [ha] at hgi; exact h.may i g hi hgi
      · rw [ha] at hgi; cases hgi
        exact h.new _ (Nat.le_trans h.size hge)
    · rw [upd_ne _ _ e] at hgi; exact h.may i g hi hgi
  · by_cases e : i = j
    · subst e; rw [upd_same, upd_same]; exact hnil
    · rw [upd_ne _ _ e, upd_ne _ _ e]; exact h.nil i hi
  · rw [hg.block b (Nat.lt_of_lt_of_le hb h.size) (fun e => hA (h.may j b hj e.symm))]
    exact h.block b hb hA

/-- One cell of row j is stored. -/
theorem St.store (h : St S w0 w v n xs m f) {j g c : Nat} (hj : j < S.K) (hv : v j = .slice (some ⟨g, 0, none⟩) (n j) c) (q : Nat) (u : Value) :
    St S w0 (w.setCell ⟨g, q, none⟩ u) v n (upd xs j ((xs j).set q u)) m f := by
  have ho := h.own j hj
  rw [hv] at ho
  obtain ⟨h1, h2⟩ := ho.stored q u
  have := h.turn hj (v' := v j) (n' := n j) (by rw [hv]; exact h2) (by rw [hv]; exact h1) (.inl rfl) (h.nil j hj)
  have e1 : upd v j (v j) = v := by funext i; unfold upd; split <;> simp_all
  have e2 : upd n j (n j) = n := by funext i; unfold upd; split <;> simp_all
  rw [e1, e2] at this
  exact this

/-- A listing is noted. -/
theorem St.note {w' : World} {m' : Nat} {f' : Nat → ByteArray → Bool} (h : St S w0 w v n xs m f) (hg : w.grownBy w' (some S.gM)) (hh : Has w' S.gM m' f') : St S w0 w' v n xs m' f' :=
  { own := fun j hj => (h.own j hj).kept hg (.inr (h.has.ne (h.own j hj))), apart := h.apart, may := h.may, nil := h.nil, has := hh, gm := h.gm, os := hg.os.trans h.os, tape := hg.tape.trans h.tape, output := hg.output.trans h.output, size := Nat.le_trans h.size hg.size,
    block := fun b hb hA => (hg.block b (Nat.lt_of_lt_of_le hb h.size) (fun e => hA (by cases e; exact h.gm))).trans (h.block b hb hA), new := h.new }

/-- A cell of row j. -/
theorem St.cell (h : St S w0 w v n xs m f) {j g c : Nat} (hj : j < S.K) (hv : v j = .slice (some ⟨g, 0, none⟩) (n j) c) {q : Nat} {u : Value} (hq : q < n j * S.ss j) (hu : (xs j)[q]? = some u) : w.cell? ⟨g, q, none⟩ = some u ∧ w.frozen? ⟨g, q, none⟩ = false := by
  have ho := h.own j hj
  rw [hv] at ho
  exact ⟨by rw [ho.cellAt q hq]; exact hu, ho.frozenAt q⟩

/-- append onto a row of the call's own, as one step of a region that draws. -/
theorem step_append_own_at {P : Program} {ops : Array Oper} {o : Oper} {a : Act} {w : World} {K : Act → World → Prop} {Q : Exit → Act → World → Prop} {E : Prop}
    (hgd : o.guard = none) (s x : Operand) (t : TypeId) (ho : o.op = .call { callee := .builtin .append, args := #[s, x], argTypes := #[t, t] })
    (base : Nat) (e : TypeId) (i : TypeInfo) (z : Value) (size bytes : Nat) (ht : P.underlying t = some (.slice e)) (hi : P.info? e = some i) (hz : i.zero = some z)
    (hsize : i.size = size) (hby : i.bytes = bytes) (hzs : z.cells.size = size) (hsz : 0 < size)
    (v : Value) (n : Nat) (xs : List Value) (hs : a.eval s = v) (hown : w.ownsRow base e size v n xs)
    (ad : Addr) (m c : Nat) (news : List Value) (hx : a.eval x = .slice (some ad) m c) (hl : news.length = m * size) (hnews : ∀ j u, news[j]? = some u → w.cell? (ad.add j) = some u) (h1 : ∀ u ∈ news, u.oneCell' = true)
    (h63 : n + m ≤ maxLen) (hbytes : (n + m) * bytes ≤ 140737488355328) (hbase : base ≤ w.heap.size)
    (h : ∀ v' w', w'.ownsRow base e size v' (n + m) (xs ++ news) → w.grownBy w' v.ownBlock → (v' = .slice none 0 0 ↔ v = .slice none 0 0 ∧ m = 0) → (v'.ownBlock = v.ownBlock ∨ v'.ownBlock = some w.heap.size) → K (a.put o.dst v') w') :
    if Region.wanted o (yielded ops a.tmps) = true then Oper.wp P o a w K Q else E := by
  have hw : Region.wanted o (yielded ops a.tmps) = true := by simp [Region.wanted, hgd]
  rw [if_pos hw]
  obtain ⟨v', w', hr, h2, h3, h4, h5⟩ := run_append_own_at (P := P) w base t o.type e i z size bytes ht hi hz hsize hby hzs hsz v n xs hown ad m c news hl hnews h1 h63 hbytes hbase
  unfold Oper.wp execOp
  simp only [ho, resolve, invoke, builtin, Sem.run_bind, Sem.run_pure, Result.andThen_ok, List.map_toArray, List.map_cons, List.map_nil, hs, hx, hr]
  exact h v' w' h2 h3 h4 h5
end Go.Proofs.Qxb6603999a.Fam

import Derived.Test.Qxb6603999aResP
namespace Go.Proofs.Qxb6603999a.Res
open Go.RowKit Go.Proofs.Qxb6603999a.Common Go.Proofs.Qxb6603999a.Model Go.Proofs.Qxb6603999a.Target Go.Proofs.Qxb6603999a.Fit Go.Proofs.Qxb6603999a.IdxFits Go.Proofs.Qxb6603999a.Deps Go.Proofs.Qxb6603999a.Miss Go.Proofs.Qxb6603999a.CopyP Go.Proofs.Qxb6603999a.MSet Go.Proofs.Qxb6603999a.Fam

def strs (l : List ByteArray) : List Value := l.map Value.string
theorem strs_snoc (l : List ByteArray) (x : ByteArray) : strs (l ++ [x]) = strs l ++ [.string x] := by simp [strs]

/-- The shape: rows 0 q · 1 deps · 2 dependents · 3 listedBy · 4 q.Missing · 5 q.SelfDependent · 6 the node's box · 7 + i deps[i] · 7 + N + d dependents[d]. -/
def shape (N B0 _gE _gL gM gq b1 b2 b3 nM nS : Nat) (zM zS : Prop) : Sh where
  K := 7 + 2 * N
  bs := fun j => if j = 0 then gq else if j = 4 then b1 else if j = 5 then b2 else B0
  es := fun j => if j = 0 then 56 else if j = 1 then 39 else if j = 2 then 39 else if j = 4 then 57 else if j = 5 then 9 else if j = 6 then 58 else 3
  ss := fun j => if j = 0 then 4 else if j = 4 then 2 else if j = 6 then 2 else 1
  z := fun j => if j = 4 then zM else if j = 5 then zS else 6 ≤ j
  n0 := fun j => if j = 0 then 1 else if j = 1 then N else if j = 2 then N else if j = 3 then N else if j = 4 then nM else if j = 5 then nS else 0
  A := fun g => B0 ≤ g ∨ g = gq ∨ (b1 ≤ g ∧ g < b3)
  gM := gM

structure RI (a : Nds) (ok : ByteArray → Bool) (val : ByteArray → Int) (N B0 gE gL gM gq b1 b2 b3 nM nS : Nat) (zM zS : Prop) (vD vC : Value) (mb : List (ByteArray × ByteArray)) (sb : List ByteArray) (w0 w : World) (i k : Nat)
    (v : Nat → Value) (n : Nat → Nat) (xs : Nat → List Value) (m : Nat) (f : Nat → ByteArray → Bool) (L : Nat → Int) : Prop where
  st : St (shape N B0 gE gL gM gq b1 b2 b3 nM nS zM zS) w0 w v n xs m f
  v0 : v 0 = .slice (some ⟨gq, 0, none⟩) 1 1
  n0 : n 0 = 1
  x0 : xs 0 = [vD, v 4, v 5, vC]
  v1 : v 1 = .slice (some ⟨B0, 0, none⟩) N N
  n1 : n 1 = N
  x1 : xs 1 = vals N fun j => v (7 + j)
  v2 : v 2 = .slice (some ⟨gE, 0, none⟩) N N
  n2 : n 2 = N
  x2 : xs 2 = vals N fun j => v (7 + N + j)
  v3 : v 3 = .slice (some ⟨gL, 0, none⟩) N N
  n3 : n 3 = N
  x3 : xs 3 = vals N fun j => .int .i64 (L j)
  x4 : xs 4 = edg (ml a ok mb i k)
  n4 : n 4 = (ml a ok mb i k).length
  x5 : xs 5 = strs (sl a sb i)
  n5 : n 5 = (sl a sb i).length
  x7 : ∀ j, j < N → xs (7 + j) = ints (dl a ok val i k j) ∧ n (7 + j) = (dl a ok val i k j).length
  x8 : ∀ j, j < N → xs (7 + N + j) = ints (el a ok val i k j) ∧ n (7 + N + j) = (el a ok val i k j).length
  lb : ∀ j, j < N → 0 ≤ L j ∧ L j ≤ i + 1 ∧ (L j = i + 1 ↔ (j : Int) ∈ D a ok val i k)
  fm : ∀ i' s, i ≤ i' → (f i' s = true ↔ i' = i ∧ s ∈ mu (a.id i) (a.s i) ok k)
  mm : m ≤ i * 4096 + k

variable {a : Nds} {ok : ByteArray → Bool} {val : ByteArray → Int} {N B0 gE gL gM gq b1 b2 b3 nM nS : Nat} {zM zS : Prop} {vD vC : Value} {mb : List (ByteArray × ByteArray)} {sb : List ByteArray} {w0 w : World} {i k : Nat} {v : Nat → Value} {n : Nat → Nat} {xs : Nat → List Value} {m : Nat} {f : Nat → ByteArray → Bool} {L : Nat → Int}

theorem D_zero (i : Nat) : D a ok val i 0 = [] := rfl
theorem mu_zero (idv : ByteArray) (s : Nat → ByteArray) (ok : ByteArray → Bool) : mu idv s ok 0 = [] := rfl

/-- A round that notes nothing. -/
theorem RI.same (h : RI a ok val N B0 gE gL gM gq b1 b2 b3 nM nS zM zS vD vC mb sb w0 w i k v n xs m f L) (hD : D a ok val i (k + 1) = D a ok val i k) (hM : mu (a.id i) (a.s i) ok (k + 1) = mu (a.id i) (a.s i) ok k) :
    RI a ok val N B0 gE gL gM gq b1 b2 b3 nM nS zM zS vD vC mb sb w0 w i (k + 1) v n xs m f L := by
  have hM' : M a ok i (k + 1) = M a ok i k := by unfold M me; rw [hM]
  have e4 : ml a ok mb i (k + 1) = ml a ok mb i k := by unfold ml; rw [hM']
  have e7 : ∀ j, dl a ok val i (k + 1) j = dl a ok val i k j := fun j => by unfold dl; rw [hD]
  have e8 : ∀ j, el a ok val i (k + 1) j = el a ok val i k j := fun j => by unfold el; rw [hD]
  exact { st := h.st, v0 := h.v0, n0 := h.n0, x0 := h.x0, v1 := h.v1, n1 := h.n1, x1 := h.x1, v2 := h.v2, n2 := h.n2, x2 := h.x2, v3 := h.v3, n3 := h.n3, x3 := h.x3, x4 := by rw [e4]; exact h.x4, n4 := by rw [e4]; exact h.n4, x5 := h.x5, n5 := h.n5,
          x7 := fun j hj => by rw [e7]; exact h.x7 j hj, x8 := fun j hj => by rw [e8]; exact h.x8 j hj, lb := fun j hj => by rw [hD]; exact h.lb j hj, fm := fun i' s hi => by rw [hM]; exact h.fm i' s hi, mm := by have := h.mm; omega }

set_option maxRecDepth 10000 in
/-- The world may draw. -/
theorem RI.drew (h : RI a ok val N B0 gE gL gM gq b1 b2 b3 nM nS zM zS vD vC mb sb w0 w i k v n xs m f L) : RI a ok val N B0 gE gL gM gq b1 b2 b3 nM nS zM zS vD vC mb sb w0 w.drew i k v n xs m f L := { h with st := h.st.drew }

set_option maxRecDepth 20000 in
/-- The next node. -/
theorem RI.next (h : RI a ok val N B0 gE gL gM gq b1 b2 b3 nM nS zM zS vD vC mb sb w0 w i (a.m i) v n xs m f L) (hm : a.m i ≤ 4096) (hs : (if U a i = true then [a.id i] else []) = ([] : List ByteArray)) :
    RI a ok val N B0 gE gL gM gq b1 b2 b3 nM nS zM zS vD vC mb sb w0 w (i + 1) 0 v n xs m f L := by
  have es : sl a sb (i + 1) = sl a sb i := by rw [sl_next, hs, List.append_nil]
  exact { st := h.st, v0 := h.v0, n0 := h.n0, x0 := h.x0, v1 := h.v1, n1 := h.n1, x1 := h.x1, v2 := h.v2, n2 := h.n2, x2 := h.x2, v3 := h.v3, n3 := h.n3, x3 := h.x3, x4 := by rw [ml_next]; exact h.x4, n4 := by rw [ml_next]; exact h.n4, x5 := by rw [es]; exact h.x5, n5 := by rw [es]; exact h.n5,
          x7 := fun j hj => by rw [dl_next]; exact h.x7 j hj, x8 := fun j hj => by rw [el_next]; exact h.x8 j hj, lb := fun j hj => by have := h.lb j hj; refine ⟨this.1, by omega, fun e => by omega, fun e => absurd (D_zero (i + 1) ▸ e) (by simp)⟩,
          fm := fun i' s hi => ⟨fun e => absurd ((h.fm i' s (by omega)).1 e).1 (by omega), fun e => absurd e.2 (by rw [mu_zero]; simp)⟩, mm := by have := h.mm; omega }
end Go.Proofs.Qxb6603999a.Res

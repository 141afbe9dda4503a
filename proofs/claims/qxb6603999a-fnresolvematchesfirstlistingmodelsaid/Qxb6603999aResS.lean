import Derived.Test.Qxb6603999aResI
namespace Go.Proofs.Qxb6603999a.Res
open Go.RowKit Go.Proofs.Qxb6603999a.Common Go.Proofs.Qxb6603999a.Model Go.Proofs.Qxb6603999a.Target Go.Proofs.Qxb6603999a.Fit Go.Proofs.Qxb6603999a.IdxFits Go.Proofs.Qxb6603999a.Deps Go.Proofs.Qxb6603999a.Miss Go.Proofs.Qxb6603999a.CopyP Go.Proofs.Qxb6603999a.MSet Go.Proofs.Qxb6603999a.Fam

variable {a : Nds} {ok : ByteArray → Bool} {val : ByteArray → Int} {N B0 gE gL gM gq b1 b2 b3 nM nS : Nat} {zM zS : Prop} {vD vC : Value} {mb : List (ByteArray × ByteArray)} {sb : List ByteArray} {w0 w : World} {i k : Nat} {v : Nat → Value} {n : Nat → Nat} {xs : Nat → List Value} {m : Nat} {f : Nat → ByteArray → Bool} {L : Nat → Int}

theorem sh_big {j : Nat} (hj : 7 ≤ j) : (shape N B0 gE gL gM gq b1 b2 b3 nM nS zM zS).bs j = B0 ∧ (shape N B0 gE gL gM gq b1 b2 b3 nM nS zM zS).es j = 3 ∧ (shape N B0 gE gL gM gq b1 b2 b3 nM nS zM zS).ss j = 1 ∧ (shape N B0 gE gL gM gq b1 b2 b3 nM nS zM zS).n0 j = 0 := by
  refine ⟨?_, ?_, ?_, ?_⟩
  · show (if j = 0 then gq else if j = 4 then b1 else if j = 5 then b2 else B0) = B0
    rw [if_neg (by omega), if_neg (by omega), if_neg (by omega)]
  · show (if j = 0 then 56 else if j = 1 then 39 else if j = 2 then 39 else if j = 4 then 57 else if j = 5 then 9 else if j = 6 then 58 else 3) = 3
    rw [if_neg (by omega), if_neg (by omega), if_neg (by omega), if_neg (by omega), if_neg (by omega), if_neg (by omega)]
  · show (if j = 0 then 4 else if j = 4 then 2 else if j = 6 then 2 else 1) = 1
    rw [if_neg (by omega), if_neg (by omega), if_neg (by omega)]
  · show (if j = 0 then 1 else if j = 1 then N else if j = 2 then N else if j = 3 then N else if j = 4 then nM else if j = 5 then nS else 0) = 0
    rw [if_neg (by omega), if_neg (by omega), if_neg (by omega), if_neg (by omega), if_neg (by omega), if_neg (by omega)]
theorem sh_z {j : Nat} (hj : 7 ≤ j) : (shape N B0 gE gL gM gq b1 b2 b3 nM nS zM zS).z j := by
  show (if j = 4 then zM else if j = 5 then zS else 6 ≤ j)
  rw [if_neg (by omega), if_neg (by omega)]; omega

/-- The row of an int slice of the family. -/
theorem RI.big (h : RI a ok val N B0 gE gL gM gq b1 b2 b3 nM nS zM zS vD vC mb sb w0 w i k v n xs m f L) {j : Nat} (h7 : 7 ≤ j) (hj : j < 7 + 2 * N) : w.ownsRow B0 3 1 (v j) (n j) (xs j) := by
  have := h.st.own j hj
  obtain ⟨e1, e2, e3, _⟩ := sh_big (N := N) (B0 := B0) (gE := gE) (gL := gL) (gM := gM) (gq := gq) (b1 := b1) (b2 := b2) (b3 := b3) (nM := nM) (nS := nS) (zM := zM) (zS := zS) h7
  rw [e1, e2, e3] at this; exact this

/-- A family row has grown by one. -/
theorem St.grow {w1 w' : World} {j : Nat} {v' : Value} {l : List Value} {u : Value} (h : St (shape N B0 gE gL gM gq b1 b2 b3 nM nS zM zS) w0 w1 v n xs m f) (h7 : 7 ≤ j) (hj : j < 7 + 2 * N)
    (hown : w'.ownsRow B0 3 1 v' (n j + 1) (l ++ [u])) (hg : w1.grownBy w' (v j).ownBlock) (hnil : v' = .slice none 0 0 ↔ v j = .slice none 0 0 ∧ 1 = 0) (hat : v'.ownBlock = (v j).ownBlock ∨ v'.ownBlock = some w1.heap.size) :
    St (shape N B0 gE gL gM gq b1 b2 b3 nM nS zM zS) w0 w' (upd v j v') (upd n j (n j + 1)) (upd xs j (l ++ [u])) m f := by
  obtain ⟨e1, e2, e3, e4⟩ := sh_big (N := N) (B0 := B0) (gE := gE) (gL := gL) (gM := gM) (gq := gq) (b1 := b1) (b2 := b2) (b3 := b3) (nM := nM) (nS := nS) (zM := zM) (zS := zS) h7
  refine h.turn hj hg (by rw [e1, e2, e3]; exact hown) ?_ ⟨by rw [e4]; omega, ?_⟩
  · rcases hat with h | h
    · exact .inl h
    · exact .inr ⟨_, h, Nat.le_refl _⟩
  · rw [hnil, e4]
    exact ⟨fun e => absurd e.2 (by omega), fun e => absurd e.2 (by omega)⟩

theorem vals_set {n : Nat} {g : Nat → Value} {j : Nat} {u : Value} (hj : j < n) : (vals n g).set j u = vals n (fun q => if q = j then u else g q) := by
  refine vals_of (by rw [List.length_set, vals_len]) fun q hq => ?_
  by_cases e : q = j
  · subst e; rw [List.getElem?_set_self (by rw [vals_len]; omega), if_pos rfl]
  · rw [List.getElem?_set_ne (fun h => e h.symm), vals_at hq, if_neg e]
theorem vals_congr {n : Nat} {g g' : Nat → Value} (h : ∀ j, j < n → g j = g' j) : vals n g = vals n g' := by
  unfold vals; exact List.map_congr_left fun j hj => h j (List.mem_range.1 hj)

set_option maxRecDepth 20000 in
/-- A new target x. -/
theorem RI.dep {x : Nat} {w5 : World} {v' v'' : Value} (h : RI a ok val N B0 gE gL gM gq b1 b2 b3 nM nS zM zS vD vC mb sb w0 w i k v n xs m f L) (hi : i < N) (hx : x < N) (hD : D a ok val i (k + 1) = D a ok val i k ++ [(x : Int)]) (hn : (x : Int) ∉ D a ok val i k) (hM : mu (a.id i) (a.s i) ok (k + 1) = mu (a.id i) (a.s i) ok k)
    (hs : St (shape N B0 gE gL gM gq b1 b2 b3 nM nS zM zS) w0 w5 (upd (upd v (7 + i) v') (7 + N + x) v'') (upd (upd n (7 + i) (n (7 + i) + 1)) (7 + N + x) (n (7 + N + x) + 1))
      (upd (upd (upd (upd (upd xs 3 ((xs 3).set x (.int .i64 (i + 1)))) (7 + i) (xs (7 + i) ++ [.int .i64 x])) 1 ((xs 1).set i v')) (7 + N + x) (xs (7 + N + x) ++ [.int .i64 i])) 2 ((xs 2).set x v'')) m f) :
    RI a ok val N B0 gE gL gM gq b1 b2 b3 nM nS zM zS vD vC mb sb w0 w5 i (k + 1) (upd (upd v (7 + i) v') (7 + N + x) v'') (upd (upd n (7 + i) (n (7 + i) + 1)) (7 + N + x) (n (7 + N + x) + 1))
      (upd (upd (upd (upd (upd xs 3 ((xs 3).set x (.int .i64 (i + 1)))) (7 + i) (xs (7 + i) ++ [.int .i64 x])) 1 ((xs 1).set i v')) (7 + N + x) (xs (7 + N + x) ++ [.int .i64 i])) 2 ((xs 2).set x v'')) m f (fun j => if j = x then (i : Int) + 1 else L j) := by
  have hM' : M a ok i (k + 1) = M a ok i k := by unfold M me; rw [hM]
  have e4 : ml a ok mb i (k + 1) = ml a ok mb i k := by unfold ml; rw [hM']
  have low : ∀ q, q < 7 → upd (upd v (7 + i) v') (7 + N + x) v'' q = v q := fun q hq => by rw [upd_ne _ _ (by omega), upd_ne _ _ (by omega)]
  have lown : ∀ q, q < 7 → upd (upd n (7 + i) (n (7 + i) + 1)) (7 + N + x) (n (7 + N + x) + 1) q = n q := fun q hq => by rw [upd_ne _ _ (by omega), upd_ne _ _ (by omega)]
  exact
  { st := hs
    v0 := by rw [low 0 (by omega)]; exact h.v0
    n0 := by rw [lown 0 (by omega)]; exact h.n0
    x0 := by rw [upd_ne _ _ (by omega), upd_ne _ _ (by omega), upd_ne _ _ (by omega), upd_ne _ _ (by omega), upd_ne _ _ (by omega), low 4 (by omega), low 5 (by omega)]; exact h.x0
    v1 := by rw [low 1 (by omega)]; exact h.v1
    n1 := by rw [lown 1 (by omega)]; exact h.n1
    x1 := by
      rw [upd_ne _ _ (by omega), upd_ne _ _ (by omega), upd_same, h.x1, vals_set hi]
      refine vals_congr fun q hq => ?_
      rw [upd_ne _ _ (by omega)]
      by_cases e : q = i
      · subst e; rw [if_pos rfl, upd_same]
      · rw [if_neg e, upd_ne _ _ (by omega)]
    v2 := by rw [low 2 (by omega)]; exact h.v2
    n2 := by rw [lown 2 (by omega)]; exact h.n2
    x2 := by
      rw [upd_same, h.x2, vals_set hx]
      refine vals_congr fun q hq => ?_
      by_cases e : q = x
      · subst e; rw [if_pos rfl, upd_same]
      · rw [if_neg e, upd_ne _ _ (by omega), upd_ne _ _ (by omega)]
    v3 := by rw [low 3 (by omega)]; exact h.v3
    n3 := by rw [lown 3 (by omega)]; exact h.n3
    x3 := by
      rw [upd_ne _ _ (by omega), upd_ne _ _ (by omega), upd_ne _ _ (by omega), upd_ne _ _ (by omega), upd_same, h.x3, vals_set hx]
      refine vals_congr fun q hq => ?_
      by_cases e : q = x
      · rw [if_pos e, if_pos e]
      · rw [if_neg e, if_neg e]
    x4 := by rw [upd_ne _ _ (by omega), upd_ne _ _ (by omega), upd_ne _ _ (by omega), upd_ne _ _ (by omega), upd_ne _ _ (by omega), e4]; exact h.x4
    n4 := by rw [lown 4 (by omega), e4]; exact h.n4
    x5 := by rw [upd_ne _ _ (by omega), upd_ne _ _ (by omega), upd_ne _ _ (by omega), upd_ne _ _ (by omega), upd_ne _ _ (by omega)]; exact h.x5
    n5 := by rw [lown 5 (by omega)]; exact h.n5
    x7 := fun q hq => by
      rw [upd_ne _ _ (by omega), upd_ne _ _ (by omega), upd_ne _ _ (by omega), upd_ne (upd n _ _) _ (by omega)]
      by_cases e : q = i
      · subst e
        rw [upd_same, upd_same, dl_at, hD, ints_snoc, (h.x7 q hq).1, (h.x7 q hq).2, dl_at, List.length_append]
        exact ⟨rfl, rfl⟩
      · rw [upd_ne _ _ (by omega), upd_ne _ _ (by omega), upd_ne _ _ (by omega), dl_ne e (k' := k)]; exact h.x7 q hq
    x8 := fun q hq => by
      rw [upd_ne _ _ (by omega), el_new hD hn]
      by_cases e : q = x
      · subst e
        rw [upd_same, upd_same, if_pos rfl, ints_snoc, (h.x8 q hq).1, (h.x8 q hq).2, List.length_append]
        exact ⟨rfl, rfl⟩
      · rw [upd_ne _ _ (by omega), upd_ne _ _ (by omega), upd_ne _ _ (by omega), upd_ne _ _ (by omega), upd_ne _ _ (by omega), upd_ne _ _ (by omega), if_neg e]; exact h.x8 q hq
    lb := fun q hq => by
      rw [hD]
      by_cases e : q = x
      · subst e; rw [if_pos rfl]; exact ⟨by omega, by omega, fun _ => by simp, fun _ => rfl⟩
      · rw [if_neg e]
        have := h.lb q hq
        refine ⟨this.1, this.2.1, fun h1 => List.mem_append_left _ (this.2.2.1 h1), fun h1 => this.2.2.2 ?_⟩
        rcases List.mem_append.1 h1 with h2 | h2
        · exact h2
        · simp at h2; omega
    fm := fun i' s hi' => by rw [hM]; exact h.fm i' s hi'
    mm := by have := h.mm; omega }
end Go.Proofs.Qxb6603999a.Res

import Derived.Test.Qxb6603999aResS
namespace Go.Proofs.Qxb6603999a.Res
open Go.RowKit Go.Proofs.Qxb6603999a.Common Go.Proofs.Qxb6603999a.Model Go.Proofs.Qxb6603999a.Target Go.Proofs.Qxb6603999a.Fit Go.Proofs.Qxb6603999a.IdxFits Go.Proofs.Qxb6603999a.Deps Go.Proofs.Qxb6603999a.Miss Go.Proofs.Qxb6603999a.CopyP Go.Proofs.Qxb6603999a.MSet Go.Proofs.Qxb6603999a.Fam

variable {a : Nds} {ok : ByteArray → Bool} {val : ByteArray → Int} {N B0 gE gL gM gq b1 b2 b3 nM nS : Nat} {zM zS : Prop} {vD vC : Value} {mb : List (ByteArray × ByteArray)} {sb : List ByteArray} {w0 w : World} {i k : Nat} {v : Nat → Value} {n : Nat → Nat} {xs : Nat → List Value} {m : Nat} {f : Nat → ByteArray → Bool} {L : Nat → Int}

/-- Row 4 (q.Missing) or row 5 (q.SelfDependent) has grown by one. -/
theorem St.grow4 {w1 w' : World} {v' : Value} {l : List Value} (h : St (shape N B0 gE gL gM gq b1 b2 b3 nM nS zM zS) w0 w1 v n xs m f)
    (hown : w'.ownsRow b1 57 2 v' (n 4 + 1) l) (hg : w1.grownBy w' (v 4).ownBlock) (hnil : v' = .slice none 0 0 ↔ v 4 = .slice none 0 0 ∧ 1 = 0) (hat : v'.ownBlock = (v 4).ownBlock ∨ v'.ownBlock = some w1.heap.size) :
    St (shape N B0 gE gL gM gq b1 b2 b3 nM nS zM zS) w0 w' (upd v 4 v') (upd n 4 (n 4 + 1)) (upd xs 4 l) m f := by
  have h0 := (h.nil 4 (by show 4 < 7 + 2 * N; omega)).1
  refine h.turn (by show 4 < 7 + 2 * N; omega) hg hown ?_ ⟨by omega, ?_⟩
  · rcases hat with h | h
    · exact .inl h
    · exact .inr ⟨_, h, Nat.le_refl _⟩
  · rw [hnil]
    exact ⟨fun e => absurd e.2 (by omega), fun e => absurd e.2 (by omega)⟩
theorem St.grow5 {w1 w' : World} {v' : Value} {l : List Value} (h : St (shape N B0 gE gL gM gq b1 b2 b3 nM nS zM zS) w0 w1 v n xs m f)
    (hown : w'.ownsRow b2 9 1 v' (n 5 + 1) l) (hg : w1.grownBy w' (v 5).ownBlock) (hnil : v' = .slice none 0 0 ↔ v 5 = .slice none 0 0 ∧ 1 = 0) (hat : v'.ownBlock = (v 5).ownBlock ∨ v'.ownBlock = some w1.heap.size) :
    St (shape N B0 gE gL gM gq b1 b2 b3 nM nS zM zS) w0 w' (upd v 5 v') (upd n 5 (n 5 + 1)) (upd xs 5 l) m f := by
  have h0 := (h.nil 5 (by show 5 < 7 + 2 * N; omega)).1
  refine h.turn (by show 5 < 7 + 2 * N; omega) hg hown ?_ ⟨by omega, ?_⟩
  · rcases hat with h | h
    · exact .inl h
    · exact .inr ⟨_, h, Nat.le_refl _⟩
  · rw [hnil]
    exact ⟨fun e => absurd e.2 (by omega), fun e => absurd e.2 (by omega)⟩

theorem RI.own4 (h : RI a ok val N B0 gE gL gM gq b1 b2 b3 nM nS zM zS vD vC mb sb w0 w i k v n xs m f L) : w.ownsRow b1 57 2 (v 4) (n 4) (xs 4) := h.st.own 4 (by show 4 < 7 + 2 * N; omega)
theorem RI.own5 (h : RI a ok val N B0 gE gL gM gq b1 b2 b3 nM nS zM zS vD vC mb sb w0 w i k v n xs m f L) : w.ownsRow b2 9 1 (v 5) (n 5) (xs 5) := h.st.own 5 (by show 5 < 7 + 2 * N; omega)
theorem RI.own0 (h : RI a ok val N B0 gE gL gM gq b1 b2 b3 nM nS zM zS vD vC mb sb w0 w i k v n xs m f L) : QRow w gq vD (v 4) (v 5) vC := by
  have := h.st.own 0 (by show 0 < 7 + 2 * N; omega)
  rw [h.v0, h.n0, h.x0] at this; exact this

set_option maxRecDepth 20000 in
/-- A new missing id. -/
theorem RI.miss {w5 : World} {v' : Value} (h : RI a ok val N B0 gE gL gM gq b1 b2 b3 nM nS zM zS vD vC mb sb w0 w i k v n xs m f L) (hD : D a ok val i (k + 1) = D a ok val i k) (hM : mu (a.id i) (a.s i) ok (k + 1) = mu (a.id i) (a.s i) ok k ++ [a.s i k])
    (hs : St (shape N B0 gE gL gM gq b1 b2 b3 nM nS zM zS) w0 w5 (upd v 4 v') (upd n 4 (n 4 + 1)) (upd (upd xs 4 (xs 4 ++ [.string (a.id i), .string (a.s i k)])) 0 ((xs 0).set 1 v')) (m + 1) (fun i' s' => if i' = i ∧ s' = a.s i k then true else f i' s')) :
    RI a ok val N B0 gE gL gM gq b1 b2 b3 nM nS zM zS vD vC mb sb w0 w5 i (k + 1) (upd v 4 v') (upd n 4 (n 4 + 1)) (upd (upd xs 4 (xs 4 ++ [.string (a.id i), .string (a.s i k)])) 0 ((xs 0).set 1 v')) (m + 1) (fun i' s' => if i' = i ∧ s' = a.s i k then true else f i' s') L := by
  have hM' : M a ok i (k + 1) = M a ok i k ++ [(a.id i, a.s i k)] := by unfold M me; rw [hM]; simp
  have e4 : ml a ok mb i (k + 1) = ml a ok mb i k ++ [(a.id i, a.s i k)] := ml_new hM'
  have e7 : ∀ j, dl a ok val i (k + 1) j = dl a ok val i k j := fun j => by unfold dl; rw [hD]
  have e8 : ∀ j, el a ok val i (k + 1) j = el a ok val i k j := fun j => by unfold el; rw [hD]
  exact
  { st := hs
    v0 := by rw [upd_ne _ _ (by omega)]; exact h.v0
    n0 := by rw [upd_ne _ _ (by omega)]; exact h.n0
    x0 := by rw [upd_same, h.x0, upd_same, upd_ne _ _ (by omega)]; rfl
    v1 := by rw [upd_ne _ _ (by omega)]; exact h.v1
    n1 := by rw [upd_ne _ _ (by omega)]; exact h.n1
    x1 := by rw [upd_ne _ _ (by omega), upd_ne _ _ (by omega), h.x1]; exact vals_congr fun q _ => by rw [upd_ne _ _ (by omega)]
    v2 := by rw [upd_ne _ _ (by omega)]; exact h.v2
    n2 := by rw [upd_ne _ _ (by omega)]; exact h.n2
    x2 := by rw [upd_ne _ _ (by omega), upd_ne _ _ (by omega), h.x2]; exact vals_congr fun q _ => by rw [upd_ne _ _ (by omega)]
    v3 := by rw [upd_ne _ _ (by omega)]; exact h.v3
    n3 := by rw [upd_ne _ _ (by omega)]; exact h.n3
    x3 := by rw [upd_ne _ _ (by omega), upd_ne _ _ (by omega)]; exact h.x3
    x4 := by rw [upd_ne _ _ (by omega), upd_same, e4, edg_snoc, h.x4]
    n4 := by rw [upd_same, e4, List.length_append, h.n4]; rfl
    x5 := by rw [upd_ne _ _ (by omega), upd_ne _ _ (by omega)]; exact h.x5
    n5 := by rw [upd_ne _ _ (by omega)]; exact h.n5
    x7 := fun q hq => by rw [upd_ne _ _ (by omega), upd_ne _ _ (by omega), upd_ne _ _ (by omega), e7]; exact h.x7 q hq
    x8 := fun q hq => by rw [upd_ne _ _ (by omega), upd_ne _ _ (by omega), upd_ne _ _ (by omega), e8]; exact h.x8 q hq
    lb := fun q hq => by rw [hD]; exact h.lb q hq
    fm := fun i' s' hi' => by
      rw [hM]
      have := h.fm i' s' hi'
      by_cases e : i' = i ∧ s' = a.s i k
      · rw [if_pos e]; exact ⟨fun _ => ⟨e.1, by rw [e.2]; simp⟩, fun _ => rfl⟩
      · rw [if_neg e, this]
        refine ⟨fun h1 => ⟨h1.1, List.mem_append_left _ h1.2⟩, fun h1 => ⟨h1.1, ?_⟩⟩
        rcases List.mem_append.1 h1.2 with h2 | h2
        · exact h2
        · simp at h2; exact absurd ⟨h1.1, h2⟩ e
    mm := by have := h.mm; omega }

set_option maxRecDepth 20000 in
/-- The node lists itself. -/
theorem RI.selfd {w5 : World} {v' : Value} (h : RI a ok val N B0 gE gL gM gq b1 b2 b3 nM nS zM zS vD vC mb sb w0 w i (a.m i) v n xs m f L) (hm : a.m i ≤ 4096) (hU : U a i = true)
    (hs : St (shape N B0 gE gL gM gq b1 b2 b3 nM nS zM zS) w0 w5 (upd v 5 v') (upd n 5 (n 5 + 1)) (upd (upd xs 5 (xs 5 ++ [.string (a.id i)])) 0 ((xs 0).set 2 v')) m f) :
    RI a ok val N B0 gE gL gM gq b1 b2 b3 nM nS zM zS vD vC mb sb w0 w5 (i + 1) 0 (upd v 5 v') (upd n 5 (n 5 + 1)) (upd (upd xs 5 (xs 5 ++ [.string (a.id i)])) 0 ((xs 0).set 2 v')) m f L := by
  have es : sl a sb (i + 1) = sl a sb i ++ [a.id i] := by rw [sl_next, if_pos hU]
  exact
  { st := hs
    v0 := by rw [upd_ne _ _ (by omega)]; exact h.v0
    n0 := by rw [upd_ne _ _ (by omega)]; exact h.n0
    x0 := by rw [upd_same, h.x0, upd_same, upd_ne _ _ (by omega)]; rfl
    v1 := by rw [upd_ne _ _ (by omega)]; exact h.v1
    n1 := by rw [upd_ne _ _ (by omega)]; exact h.n1
    x1 := by rw [upd_ne _ _ (by omega), upd_ne _ _ (by omega), h.x1]; exact vals_congr fun q _ => by rw [upd_ne _ _ (by omega)]
    v2 := by rw [upd_ne _ _ (by omega)]; exact h.v2
    n2 := by rw [upd_ne _ _ (by omega)]; exact h.n2
    x2 := by rw [upd_ne _ _ (by omega), upd_ne _ _ (by omega), h.x2]; exact vals_congr fun q _ => by rw [upd_ne _ _ (by omega)]
    v3 := by rw [upd_ne _ _ (by omega)]; exact h.v3
    n3 := by rw [upd_ne _ _ (by omega)]; exact h.n3
    x3 := by rw [upd_ne _ _ (by omega), upd_ne _ _ (by omega)]; exact h.x3
    x4 := by rw [upd_ne _ _ (by omega), upd_ne _ _ (by omega), ml_next]; exact h.x4
    n4 := by rw [upd_ne _ _ (by omega), ml_next]; exact h.n4
    x5 := by rw [upd_ne _ _ (by omega), upd_same, es, strs_snoc, h.x5]
    n5 := by rw [upd_same, es, List.length_append, h.n5]; rfl
    x7 := fun q hq => by rw [upd_ne _ _ (by omega), upd_ne _ _ (by omega), upd_ne _ _ (by omega), dl_next]; exact h.x7 q hq
    x8 := fun q hq => by rw [upd_ne _ _ (by omega), upd_ne _ _ (by omega), upd_ne _ _ (by omega), el_next]; exact h.x8 q hq
    lb := fun j hj => by have := h.lb j hj; exact ⟨this.1, by omega, fun e => by omega, fun e => absurd (D_zero (i + 1) ▸ e) (by simp)⟩
    fm := fun i' s hi => ⟨fun e => absurd ((h.fm i' s (by omega)).1 e).1 (by omega), fun e => absurd e.2 (by rw [mu_zero]; simp)⟩
    mm := by have := h.mm; omega }

set_option maxRecDepth 20000 in
/-- The node's box is laid. -/
theorem RI.box (h : RI a ok val N B0 gE gL gM gq b1 b2 b3 nM nS zM zS vD vC mb sb w0 w i k v n xs m f L) (c0 c1 : Value) (hB : B0 ≤ w.heap.size) :
    RI a ok val N B0 gE gL gM gq b1 b2 b3 nM nS zM zS vD vC mb sb w0 (w.alloc (.cells #[c0, c1] 58)) i k (upd v 6 (.slice (some ⟨w.heap.size, 0, none⟩) 1 1)) (upd n 6 1) (upd xs 6 [c0, c1]) m f L := by
  have hs : St (shape N B0 gE gL gM gq b1 b2 b3 nM nS zM zS) w0 (w.alloc (.cells #[c0, c1] 58)) (upd v 6 (.slice (some ⟨w.heap.size, 0, none⟩) 1 1)) (upd n 6 1) (upd xs 6 [c0, c1]) m f := by
    refine h.st.turn (by show 6 < 7 + 2 * N; omega) (World.grownBy_alloc _ _ _) ?_ (.inr ⟨_, rfl, Nat.le_refl _⟩) ⟨Nat.zero_le _, ?_⟩
    · exact World.ownsRow_lit (base := B0) (e := 58) (size := 2) w #[c0, c1] 1 hB (by unfold maxLen; omega) rfl
    · constructor
      · intro e; simp at e
      · intro e; have := e.2; change 1 = 0 at this; omega
  exact
  { st := hs
    v0 := by rw [upd_ne _ _ (by omega)]; exact h.v0
    n0 := by rw [upd_ne _ _ (by omega)]; exact h.n0
    x0 := by rw [upd_ne _ _ (by omega), upd_ne _ _ (by omega), upd_ne _ _ (by omega)]; exact h.x0
    v1 := by rw [upd_ne _ _ (by omega)]; exact h.v1
    n1 := by rw [upd_ne _ _ (by omega)]; exact h.n1
    x1 := by rw [upd_ne _ _ (by omega), h.x1]; exact vals_congr fun q _ => by rw [upd_ne _ _ (by omega)]
    v2 := by rw [upd_ne _ _ (by omega)]; exact h.v2
    n2 := by rw [upd_ne _ _ (by omega)]; exact h.n2
    x2 := by rw [upd_ne _ _ (by omega), h.x2]; exact vals_congr fun q _ => by rw [upd_ne _ _ (by omega)]
    v3 := by rw [upd_ne _ _ (by omega)]; exact h.v3
    n3 := by rw [upd_ne _ _ (by omega)]; exact h.n3
    x3 := by rw [upd_ne _ _ (by omega)]; exact h.x3
    x4 := by rw [upd_ne _ _ (by omega)]; exact h.x4
    n4 := by rw [upd_ne _ _ (by omega)]; exact h.n4
    x5 := by rw [upd_ne _ _ (by omega)]; exact h.x5
    n5 := by rw [upd_ne _ _ (by omega)]; exact h.n5
    x7 := fun q hq => by rw [upd_ne _ _ (by omega), upd_ne _ _ (by omega)]; exact h.x7 q hq
    x8 := fun q hq => by rw [upd_ne _ _ (by omega), upd_ne _ _ (by omega)]; exact h.x8 q hq
    lb := h.lb
    fm := h.fm
    mm := h.mm }
end Go.Proofs.Qxb6603999a.Res

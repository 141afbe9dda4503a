import Derived.Test.Qxb6603999aResU
import Derived.Maps.RangeWalk
namespace Go.Proofs.Qxb6603999a.Res
open Go.RowKit Go.Proofs.Qxb6603999a.Common Go.Proofs.Qxb6603999a.Model Go.Proofs.Qxb6603999a.Target Go.Proofs.Qxb6603999a.Fit Go.Proofs.Qxb6603999a.IdxFits Go.Proofs.Qxb6603999a.Deps Go.Proofs.Qxb6603999a.Miss Go.Proofs.Qxb6603999a.CopyP Go.Proofs.Qxb6603999a.MSet Go.Proofs.Qxb6603999a.Fam

def mbOf (p : Prob) : List (ByteArray × ByteArray) := (List.range p.nM).map fun j => (p.fM j, p.tM j)
def sbOf (p : Prob) : List ByteArray := (List.range p.nS).map p.sS
theorem mb_len (p : Prob) : (mbOf p).length = p.nM := by simp [mbOf]
theorem sb_len (p : Prob) : (sbOf p).length = p.nS := by simp [sbOf]
theorem edg_mb (p : Prob) : edgesOf p = edg (mbOf p) := by
  refine (vals_of (by rw [edg_len, mb_len]) fun j hj => ?_).symm
  rw [edg_at _ j (by rw [mb_len]; exact hj)]
  unfold pair
  have hj' : j / 2 < p.nM := by omega
  simp [mbOf, List.getD_eq_getElem?_getD, List.getElem?_map, List.getElem?_range hj']
theorem strs_sb (p : Prob) : (vals p.nS fun j => .string (p.sS j)) = strs (sbOf p) := by
  unfold vals strs sbOf; simp

/-- what resolve leaves -/
def Resolved (a : Nds) (ok : ByteArray → Bool) (val : ByteArray → Int) (p : Prob) (gq : Nat) (q : QV) (w : World) (e : Ending) (w' : World) : Prop :=
  ∃ gE gL gM v n xs m f L, e = .returned (.tuple #[.slice (some ⟨w.heap.size, 0, none⟩) a.n a.n, .slice (some ⟨gE, 0, none⟩) a.n a.n]) ∧
    w.heap.size < gE ∧ RI a ok val a.n w.heap.size gE gL gM gq q.b1 q.b2 q.b3 p.nM p.nS (q.yM = none) (q.yS = none) (q.vD p) (q.vC p) (mbOf p) (sbOf p) w w' a.n 0 v n xs m f L

theorem St.above {N B0 gE gL gM gq b1 b2 b3 nM nS : Nat} {zM zS : Prop} {w0 w : World} {v : Nat → Value} {n : Nat → Nat} {xs : Nat → List Value} {m : Nat} {f : Nat → ByteArray → Bool} (h : St (shape N B0 gE gL gM gq b1 b2 b3 nM nS zM zS) w0 w v n xs m f) {B : Nat} (hB : b3 ≤ B) (hg : gq < B) (h0 : B0 = w0.heap.size) : Above B w0 w :=
  ⟨h.size, fun b hb hlt => h.block b hlt (by show ¬ (B0 ≤ b ∨ b = gq ∨ (b1 ≤ b ∧ b < b3)); omega)⟩
theorem St.low {N B0 gE gL gM gq b1 b2 b3 nM nS : Nat} {zM zS : Prop} {wL w0 w : World} {v : Nat → Value} {n : Nat → Nat} {xs : Nat → List Value} {m : Nat} {f : Nat → ByteArray → Bool} (h : St (shape N B0 gE gL gM gq b1 b2 b3 nM nS zM zS) w0 w v n xs m f) (hL : Below wL.heap.size wL w0) (hg : wL.heap.size ≤ gq) (h1 : wL.heap.size ≤ b1) (h0 : B0 = w0.heap.size) : Below wL.heap.size wL w :=
  ⟨h.os.trans hL.os, h.tape.trans hL.tape, h.output.trans hL.output, Nat.le_trans hL.size h.size, fun b hb => (h.block b (Nat.lt_of_lt_of_le hb hL.size) (by have := hL.size; show ¬ (B0 ≤ b ∨ b = gq ∨ (b1 ≤ b ∧ b < b3)); omega)).trans (hL.block b hb)⟩

/-- The invariant in resolve's own numbers. -/
abbrev RX (a : Nds) (ok : ByteArray → Bool) (val : ByteArray → Int) (p : Prob) (q : QV) (gq : Nat) (w : World) (gE gL gM : Nat) (wr : World) (i k : Nat) (v : Nat → Value) (n : Nat → Nat) (xs : Nat → List Value) (m : Nat) (f : Nat → ByteArray → Bool) (L : Nat → Int) : Prop :=
  RI a ok val a.n w.heap.size gE gL gM gq q.b1 q.b2 q.b3 p.nM p.nS (q.yM = none) (q.yS = none) (q.vD p) (q.vC p) (mbOf p) (sbOf p) w wr i k v n xs m f L
/-- The box of the node in hand. -/
def BX (a : Nds) (i nb : Nat) (v : Nat → Value) (n : Nat → Nat) (xs : Nat → List Value) : Prop := v 6 = .slice (some ⟨nb, 0, none⟩) 1 1 ∧ n 6 = 1 ∧ xs 6 = [.string (a.id i), .slice (a.y i) (a.m i) (a.k i)]

theorem RX.start {a : Nds} {ok : ByteArray → Bool} {val : ByteArray → Int} {p : Prob} {q : QV} {gq : Nat} {w w1 w2 w3 : World} (hq : Copy p gq q w) (h1 : w1.ownsRow w.heap.size 39 1 (.slice (some ⟨w.heap.size, 0, none⟩) a.n a.n) a.n (madeCells (Value.slice none 0 0).cells (a.n * 1)).toList) (g1 : w.grownBy w1 none)
    (h2 : w2.ownsRow w.heap.size 39 1 (.slice (some ⟨w1.heap.size, 0, none⟩) a.n a.n) a.n (madeCells (Value.slice none 0 0).cells (a.n * 1)).toList) (g2 : w1.grownBy w2 none) (h3 : w3.ownsRow w.heap.size 3 1 (.slice (some ⟨w2.heap.size, 0, none⟩) a.n a.n) a.n (madeCells (Value.int .i64 0).cells (a.n * 1)).toList) (g3 : w2.grownBy w3 none) :
    RX a ok val p q gq w w1.heap.size w2.heap.size w3.heap.size (w3.alloc (.map #[] 0)) 0 0 (v0s a.n w.heap.size w1.heap.size w2.heap.size gq (q.vM p) (q.vS p)) (n0s a.n p.nM p.nS) (x0s a.n (q.vD p) (q.vM p) (q.vS p) (q.vC p) (mbOf p) (sbOf p)) 0 (fun _ _ => false) (fun _ => 0) := by
  have b1 : Below w.heap.size w w1 := (Below.refl _ _).grown g1 (Nat.le_refl _) (by simp)
  have b2 : Below w1.heap.size w1 w2 := (Below.refl _ _).grown g2 (Nat.le_refl _) (by simp)
  have b3 : Below w2.heap.size w2 w3 := (Below.refl _ _).grown g3 (Nat.le_refl _) (by simp)
  have b4 : Below w3.heap.size w3 (w3.alloc (.map #[] 0)) := (Below.refl _ _).alloc (Nat.le_refl _) _
  have c3 : Below w2.heap.size w2 (w3.alloc (.map #[] 0)) := b3.trans (b4.mono b3.size)
  have c2 : Below w1.heap.size w1 (w3.alloc (.map #[] 0)) := b2.trans (c3.mono b2.size)
  have c1 : Below w.heap.size w (w3.alloc (.map #[] 0)) := b1.trans (c2.mono b1.size)
  have k1 : w.heap.size < w1.heap.size := (h1.lt _ rfl).2
  have k2 : w1.heap.size < w2.heap.size := (h2.lt _ rfl).2
  have k3 : w2.heap.size < w3.heap.size := (h3.lt _ rfl).2
  have ez : (Value.slice none 0 0).cells = #[Value.slice none 0 0] := rfl
  have ei : (Value.int .i64 0).cells = #[Value.int .i64 0] := rfl
  have rep : ∀ (u : Value), List.replicate (a.n * 1) u = vals a.n fun _ => u := fun u => by
    refine vals_of (by simp) fun j hj => ?_
    rw [List.getElem?_replicate, if_pos (by omega)]
  rw [ez, toList_madeCells_one, rep] at h1 h2
  rw [ei, toList_madeCells_one, rep] at h3
  have oM : (w3.alloc (.map #[] 0)).ownsRow q.b1 57 2 (q.vM p) p.nM (edg (mbOf p)) := by rw [← edg_mb]; exact owns_below hq.oM c1
  have oS : (w3.alloc (.map #[] 0)).ownsRow q.b2 9 1 (q.vS p) p.nS (strs (sbOf p)) := by rw [← strs_sb]; exact owns_below hq.oS c1
  refine RI.start rfl (hq.q.below c1) oM oS (owns_below h1 c2) (owns_below h2 c3) (owns_below h3 b4) (Has.made w3) c1 hq.uM hq.uS (mb_len p).symm (sb_len p).symm ?_ ?_ k1 k2 k3 hq.l1 hq.l2 hq.l3 hq.l4
  · constructor
    · intro e; unfold QV.vM at e; simp at e; exact e.1
    · intro e
      rcases oM.2 with ⟨h, _⟩ | ⟨g, cap, cur, h, _⟩
      · exact h
      · unfold QV.vM at h; rw [e] at h; simp at h
  · constructor
    · intro e; unfold QV.vS at e; simp at e; exact e.1
    · intro e
      rcases oS.2 with ⟨h, _⟩ | ⟨g, cap, cur, h, _⟩
      · exact h
      · unfold QV.vS at h; rw [e] at h; simp at h

section
variable {a : Nds} {ok : ByteArray → Bool} {val : ByteArray → Int} {N B0 gE gL gM gq b1 b2 b3 nM nS : Nat} {zM zS : Prop} {vD vC : Value} {mb : List (ByteArray × ByteArray)} {sb : List ByteArray} {w0 w w6 : World} {i k x : Nat} {v : Nat → Value} {n : Nat → Nat} {xs : Nat → List Value} {m : Nat} {f : Nat → ByteArray → Bool} {L : Nat → Int}

theorem dep3 {l3 l7 : List Value} {v6 : Value} (h : RI a ok val N B0 gE gL gM gq b1 b2 b3 nM nS zM zS vD vC mb sb w0 w i k v n xs m f L) (hs : St (shape N B0 gE gL gM gq b1 b2 b3 nM nS zM zS) w0 w6 (upd v (7 + i) v6) (upd n (7 + i) (n (7 + i) + 1)) (upd (upd xs 3 l3) (7 + i) l7) m f) (_hi : i < N) :
    St (shape N B0 gE gL gM gq b1 b2 b3 nM nS zM zS) w0 (w6.setCell ⟨B0, i, none⟩ v6) (upd v (7 + i) v6) (upd n (7 + i) (n (7 + i) + 1)) (upd (upd (upd xs 3 l3) (7 + i) l7) 1 ((xs 1).set i v6)) m f := by
  have := hs.store (j := 1) (g := B0) (c := N) (by show 1 < 7 + 2 * N; omega) (by rw [upd_ne _ _ (by omega), upd_ne _ _ (by omega), h.v1, h.n1]) i v6
  rw [upd_ne (upd xs 3 l3) _ (show 1 ≠ 7 + i by omega), upd_ne xs _ (show 1 ≠ 3 by omega)] at this
  exact this
theorem dep4 {l1 l3 l7 : List Value} {v6 : Value} {W3 : World} {y8 : Option Addr} {c8 : Nat} (h : RI a ok val N B0 gE gL gM gq b1 b2 b3 nM nS zM zS vD vC mb sb w0 w i k v n xs m f L) (hs : St (shape N B0 gE gL gM gq b1 b2 b3 nM nS zM zS) w0 W3 (upd v (7 + i) v6) (upd n (7 + i) (n (7 + i) + 1)) (upd (upd (upd xs 3 l3) (7 + i) l7) 1 l1) m f) (hi : i < N) (hx : x < N) (hv8 : v (7 + N + x) = .slice y8 (n (7 + N + x)) c8) :
    W3.cell? ⟨gE, x, none⟩ = some (.slice y8 (n (7 + N + x)) c8) ∧ W3.frozen? ⟨gE, x, none⟩ = false ∧ W3.ownsRow B0 3 1 (.slice y8 (n (7 + N + x)) c8) (n (7 + N + x)) (xs (7 + N + x)) := by
  have hc := hs.cell (j := 2) (g := gE) (c := N) (q := x) (u := .slice y8 (n (7 + N + x)) c8) (by show 2 < 7 + 2 * N; omega) (by rw [upd_ne _ _ (by omega), upd_ne _ _ (by omega), h.v2, h.n2]) (by rw [upd_ne _ _ (by omega), h.n2]; show x < N * 1; omega) (by rw [upd_ne _ _ (by omega), upd_ne _ _ (by omega), upd_ne _ _ (by omega), h.x2, vals_at hx, hv8])
  refine ⟨hc.1, hc.2, ?_⟩
  have := hs.own (7 + N + x) (by show 7 + N + x < 7 + 2 * N; omega)
  obtain ⟨e1, e2, e3, _⟩ := sh_big (N := N) (B0 := B0) (gE := gE) (gL := gL) (gM := gM) (gq := gq) (b1 := b1) (b2 := b2) (b3 := b3) (nM := nM) (nS := nS) (zM := zM) (zS := zS) (j := 7 + N + x) (by omega)
  rw [e1, e2, e3, upd_ne _ _ (by omega), upd_ne _ _ (by omega), upd_ne _ _ (by omega), upd_ne _ _ (by omega), upd_ne _ _ (by omega), hv8] at this
  exact this
theorem dep5 {l1 l3 l7 : List Value} {v6 v9 : Value} {W3 w9 : World} {y8 : Option Addr} {c8 : Nat} {u : Value} (_h : RI a ok val N B0 gE gL gM gq b1 b2 b3 nM nS zM zS vD vC mb sb w0 w i k v n xs m f L) (hs : St (shape N B0 gE gL gM gq b1 b2 b3 nM nS zM zS) w0 W3 (upd v (7 + i) v6) (upd n (7 + i) (n (7 + i) + 1)) (upd (upd (upd xs 3 l3) (7 + i) l7) 1 l1) m f) (hi : i < N) (hx : x < N) (hv8 : v (7 + N + x) = .slice y8 (n (7 + N + x)) c8)
    (hown : w9.ownsRow B0 3 1 v9 (n (7 + N + x) + 1) (xs (7 + N + x) ++ [u])) (hg : W3.grownBy w9 (Value.ownBlock (.slice y8 (n (7 + N + x)) c8))) (hnil : v9 = .slice none 0 0 ↔ Value.slice y8 (n (7 + N + x)) c8 = .slice none 0 0 ∧ 1 = 0) (hat : v9.ownBlock = Value.ownBlock (.slice y8 (n (7 + N + x)) c8) ∨ v9.ownBlock = some W3.heap.size) :
    St (shape N B0 gE gL gM gq b1 b2 b3 nM nS zM zS) w0 w9 (upd (upd v (7 + i) v6) (7 + N + x) v9) (upd (upd n (7 + i) (n (7 + i) + 1)) (7 + N + x) (n (7 + N + x) + 1)) (upd (upd (upd (upd xs 3 l3) (7 + i) l7) 1 l1) (7 + N + x) (xs (7 + N + x) ++ [u])) m f := by
  have e1 : upd v (7 + i) v6 (7 + N + x) = .slice y8 (n (7 + N + x)) c8 := by rw [upd_ne _ _ (by omega), hv8]
  have e2 : upd n (7 + i) (n (7 + i) + 1) (7 + N + x) = n (7 + N + x) := upd_ne _ _ (by omega)
  have := St.grow (j := 7 + N + x) hs (by omega) (by omega) (by rw [e2]; exact hown) (by rw [e1]; exact hg) (by rw [e1]; exact hnil) (by rw [e1]; exact hat)
  rw [e2] at this
  exact this
theorem dep6 {l1 l3 l7 l8 : List Value} {v6 v9 : Value} {w9 : World} (h : RI a ok val N B0 gE gL gM gq b1 b2 b3 nM nS zM zS vD vC mb sb w0 w i k v n xs m f L) (hs : St (shape N B0 gE gL gM gq b1 b2 b3 nM nS zM zS) w0 w9 (upd (upd v (7 + i) v6) (7 + N + x) v9) (upd (upd n (7 + i) (n (7 + i) + 1)) (7 + N + x) (n (7 + N + x) + 1)) (upd (upd (upd (upd xs 3 l3) (7 + i) l7) 1 l1) (7 + N + x) l8) m f) (_hi : i < N) (hx : x < N) :
    ∃ o, w9.cell? ⟨gE, x, none⟩ = some o ∧ w9.frozen? ⟨gE, x, none⟩ = false :=
  ⟨v (7 + N + x), hs.cell (j := 2) (g := gE) (c := N) (q := x) (by show 2 < 7 + 2 * N; omega) (by rw [upd_ne _ _ (by omega), upd_ne _ _ (by omega), upd_ne _ _ (by omega), upd_ne _ _ (by omega), h.v2, h.n2]) (by rw [upd_ne _ _ (by omega), upd_ne _ _ (by omega), h.n2]; show x < N * 1; omega) (by rw [upd_ne _ _ (by omega), upd_ne _ _ (by omega), upd_ne _ _ (by omega), upd_ne _ _ (by omega), h.x2, vals_at hx])⟩
theorem dep7 {l1 l3 l7 l8 : List Value} {v6 v9 : Value} {w9 : World} (h : RI a ok val N B0 gE gL gM gq b1 b2 b3 nM nS zM zS vD vC mb sb w0 w i k v n xs m f L) (hs : St (shape N B0 gE gL gM gq b1 b2 b3 nM nS zM zS) w0 w9 (upd (upd v (7 + i) v6) (7 + N + x) v9) (upd (upd n (7 + i) (n (7 + i) + 1)) (7 + N + x) (n (7 + N + x) + 1)) (upd (upd (upd (upd xs 3 l3) (7 + i) l7) 1 l1) (7 + N + x) l8) m f) (_hi : i < N) (_hx : x < N) :
    St (shape N B0 gE gL gM gq b1 b2 b3 nM nS zM zS) w0 (w9.setCell ⟨gE, x, none⟩ v9) (upd (upd v (7 + i) v6) (7 + N + x) v9) (upd (upd n (7 + i) (n (7 + i) + 1)) (7 + N + x) (n (7 + N + x) + 1)) (upd (upd (upd (upd (upd xs 3 l3) (7 + i) l7) 1 l1) (7 + N + x) l8) 2 ((xs 2).set x v9)) m f := by
  have := hs.store (j := 2) (g := gE) (c := N) (by show 2 < 7 + 2 * N; omega) (by rw [upd_ne _ _ (by omega), upd_ne _ _ (by omega), upd_ne _ _ (by omega), upd_ne _ _ (by omega), h.v2, h.n2]) x v9
  rw [upd_ne (upd (upd (upd xs 3 l3) (7 + i) l7) 1 l1) _ (show 2 ≠ 7 + N + x by omega), upd_ne (upd (upd xs 3 l3) (7 + i) l7) _ (show 2 ≠ 1 by omega), upd_ne (upd xs 3 l3) _ (show 2 ≠ 7 + i by omega), upd_ne xs _ (show 2 ≠ 3 by omega)] at this
  exact this
theorem bx_dep {l1 l2 l3 l7 l8 : List Value} {v6 v9 : Value} {n7 n8 nb : Nat} (h : BX a i nb v n xs) : BX a i nb (upd (upd v (7 + i) v6) (7 + N + x) v9) (upd (upd n (7 + i) n7) (7 + N + x) n8) (upd (upd (upd (upd (upd xs 3 l3) (7 + i) l7) 1 l1) (7 + N + x) l8) 2 l2) :=
  ⟨by rw [upd_ne _ _ (by omega), upd_ne _ _ (by omega)]; exact h.1, by rw [upd_ne _ _ (by omega), upd_ne _ _ (by omega)]; exact h.2.1, by rw [upd_ne _ _ (by omega), upd_ne _ _ (by omega), upd_ne _ _ (by omega), upd_ne _ _ (by omega), upd_ne _ _ (by omega)]; exact h.2.2⟩
end

set_option maxRecDepth 100000 in
set_option maxHeartbeats 4000000 in
theorem f18_any (a : Nds) (p : Prob) (q : QV) (gq Bn : Nat) (mv : Value) (ok : ByteArray → Bool) (val : ByteArray → Int) (wL w : World) (hL : Below wL.heap.size wL w) (hgL : wL.heap.size ≤ gq) (ha : a.Reads w Bn) (hBn : q.b3 ≤ Bn) (hgn : gq < Bn) (hf : a.Fits) (hpf : p.Fits) (hi : Idx wL mv ok val) (hs : ∀ i j, (a.s i j).size ≤ maxLen)
    (hv : ∀ i, i < a.n → InR a ok val i (a.m i)) (hq : Copy p gq q w) :
    Calls Try.prog 18 #[.slice a.x a.n a.c, mv, .pointer (some ⟨gq, 0, none⟩)] w fun e w' => Resolved a ok val p gq q w e w' := by
  obtain ⟨i3, hinf3, hz30, hz31, hz32⟩ := info_parts info3
  obtain ⟨i9, hinf9, hz90, hz91, hz92⟩ := info_parts info9
  obtain ⟨i39, hinf39, hz390, hz391, hz392⟩ := info_parts info39
  obtain ⟨i57, hinf57, hz570, hz571, hz572⟩ := info_parts info57
  have hmm := @run_makeMap Try.prog
  obtain ⟨hn, hfm⟩ := hf
  have hnM := hpf.2.1
  have hnS := hpf.2.2.1
  have HL := hid hL
  have HA := hid ha
  have HFM := hid hfm
  have HI := hid hi
  have HSZ := hid hs
  have HV := hid hv
  have HQ := hid hq
  have hl1 := hq.l1
  have hl2 := hq.l2
  have hl3 := hq.l3
  have hl4 := hq.l4
  clear hL ha hfm hi hs hv hq hpf
  go_enter Try.func18, Try.ntmps18
  go_wp2_with (first | (refine wpList_make_full _ rfl (.tmp 18) (.tmp 18) 34 rfl w.heap.size 39 i39 (.slice none 0 0) 1 Try.underlying34 hinf39 hz390 hz391 .i64 .i64 _ _ a.n rfl rfl rfl rfl (by rw [hz392]; omega) (by unfold maxLen; omega) (Nat.le_refl _) ?_; intro w1 hown1 hgr1) | (refine wpList_make_full _ rfl (.tmp 21) (.tmp 21) 34 rfl w.heap.size 39 i39 (.slice none 0 0) 1 Try.underlying34 hinf39 hz390 hz391 .i64 .i64 _ _ a.n rfl rfl rfl rfl (by rw [hz392]; omega) (by unfold maxLen; omega) hgr1.size ?_; intro w2 hown2 hgr2) | (refine wpList_make_full _ rfl (.tmp 24) (.tmp 24) 39 rfl w.heap.size 3 i3 (.int .i64 0) 1 Try.underlying39 hinf3 hz30 hz31 .i64 .i64 _ _ a.n rfl rfl rfl rfl (by rw [hz32]; omega) (by unfold maxLen; omega) (Nat.le_trans hgr1.size hgr2.size) ?_; intro w3 hown3 hgr3))
  have k1 : w.heap.size < w1.heap.size := (hown1.lt _ rfl).2
  have k2 : w1.heap.size < w2.heap.size := (hown2.lt _ rfl).2
  have k3 : w2.heap.size < w3.heap.size := (hown3.lt _ rfl).2
  have HST := hid (RX.start (ok := ok) (val := val) HQ.out hown1 hgr1 hown2 hgr2 hown3 hgr3)
  clear hown1 hown2 hown3 hgr1 hgr2 hgr3
  go_loopw [29] (fun t wr => ∃ i v n xs m f L, i ≤ a.n ∧ t = .int .i64 i ∧ Hid (RX a ok val p q gq w w1.heap.size w2.heap.size w3.heap.size wr i 0 v n xs m f L)) (fun t _ => a.n - (intOf t).toNat)
  case atStart => exact ⟨0, _, _, _, _, _, _, Nat.zero_le _, rfl, HST.out⟩
  case round =>
    obtain ⟨i, v, n, xs, m, f, L, hin, rfl, R⟩ := hrel
    by_cases hlt : i < a.n
    · have habv := St.above R.out.st (B := Bn) hBn hgn rfl
      have hrd : a.Reads wr Bn := RdN.carry HA.out habv (Nat.le_refl _)
      obtain ⟨b, off, hx, hb, hc0, hc1, -⟩ := hrd.at hlt
      clear hrd
      have hsz := R.out.st.size
      have hik : (i : Int) < a.n := by omega
      have hm4 := HFM.out i hlt
      have RB := hid (R.out.box (.string (a.id i)) (.slice (a.y i) (a.m i) (a.k i)) hsz)
      clear habv
      obtain ⟨nb, hnb⟩ : ∃ nb, wr.heap.size = nb := ⟨_, rfl⟩
      rw [hnb] at RB
      rw [hx]
      go_wp2_with fail
      go_loopw [12, 37] (fun sf t w2' => ∃ k v n xs m f L, k ≤ a.m i ∧ t = .int .i64 k ∧ sf = .bool (su (a.id i) (a.s i) k) ∧ Hid (RX a ok val p q gq w w1.heap.size w2.heap.size w3.heap.size w2' i k v n xs m f L) ∧ Hid (BX a i nb v n xs)) (fun _ t _ => a.m i - (intOf t).toNat)
      case atStart => exact ⟨0, _, _, _, _, _, _, Nat.zero_le _, rfl, rfl, RB.out, ⟨upd_same _ _ _, upd_same _ _ _, upd_same _ _ _⟩⟩
      case round =>
        obtain ⟨k, v', n', xs', m', f', L', hkm, rfl, rfl, RK, RBX⟩ := hrel
        by_cases hkl : k < a.m i
        · have hrd : a.Reads wr Bn := RdN.carry HA.out (St.above RK.out.st (B := Bn) hBn hgn rfl) (Nat.le_refl _)
          obtain ⟨b', off', hy, -, -, hcs⟩ := (hrd.2 i hlt).at1 hkl
          have hrun := hid (HI.out wr (St.low RK.out.st HL.out hgL (by omega) rfl) (a.s i k) (HSZ.out i k))
          have hikm : (k : Int) < a.m i := by omega
          have hbx0 : wr.cell? ⟨nb, 0, none⟩ = some (.string (a.id i)) := (RK.out.st.cell (j := 6) (g := nb) (c := 1) (by show 6 < 7 + 2 * a.n; omega) (by rw [RBX.out.1, RBX.out.2.1]) (by rw [RBX.out.2.1]; show 0 < 1 * 2; omega) (by rw [RBX.out.2.2]; rfl)).1
          have hsz' := RK.out.st.size
          clear hrd
          rw [hy]
          by_cases he : a.s i k = a.id i
          · have he' : ((a.s i k).toList == (a.id i).toList) = true := by rw [eqs]; simpa using he
            have RN := hid (RK.out.same (du_none (tg_own he)) (mu_own he))
            have HSU : Hid (su (a.id i) (a.s i) (k + 1) = true) := (su_of (k + 1)).2 ⟨k, by omega, he⟩
            clear he
            go_wp2_with (at_lookup; refine wpList_lookup_run _ rfl (.tmp 42) (.tmp 43) 23 true rfl _ _ _ rfl rfl hrun.out ?_)
            go_roundw
            case rel => exact ⟨k + 1, _, _, _, _, _, _, by omega, by go_num, by rw [HSU.out], RN.out, RBX.out⟩
            case measure => simp [intOf]; omega
          · have he' : ((a.s i k).toList == (a.id i).toList) = false := by rw [eqs]; simpa using he
            have HNE := hid he
            have HSU : Hid (su (a.id i) (a.s i) (k + 1) = su (a.id i) (a.s i) k) := by unfold Hid; simp [su, he]
            clear he
            cases hok : ok (a.s i k) with
            | false =>
              rw [hok] at hrun
              have HTN := hid (tg_no (idv := a.id i) (val := val) hok)
              have HOK := hid hok
              clear hok
              have hlook := hid (RK.out.st.has.look (i := i) (s := a.s i k) (by omega) (HSZ.out i k))
              cases hfk : f' i (a.s i k) with
              | true =>
                rw [hfk] at hlook
                have RN := hid (RK.out.same (du_none HTN.out) (mu_old ((RK.out.fm i (a.s i k) (Nat.le_refl _)).1 hfk).2))
                clear hfk
                go_wp2_with (first | (at_lookup; refine wpList_lookup_run _ rfl (.tmp 42) (.tmp 43) 23 true rfl _ _ _ rfl rfl hrun.out ?_) | (at_lookup; refine wpList_lookup_run _ rfl (.tmp 55) (.tmp 58) 61 false rfl _ _ _ rfl rfl hlook.out ?_))
                go_roundw
                case rel => exact ⟨k + 1, _, _, _, _, _, _, by omega, by go_num, by rw [HSU.out], RN.out, RBX.out⟩
                case measure => simp [intOf]; omega
              | false =>
                rw [hfk] at hlook
                have HMN := hid (mu_new HNE.out HOK.out (fun h => by have := (RK.out.fm i (a.s i k) (Nat.le_refl _)).2 ⟨rfl, h⟩; rw [hfk] at this; cases this))
                clear hfk
                obtain ⟨w5, hput, hhas, hgp⟩ := RK.out.st.has.put (i := i) (s := a.s i k) (by omega) (HSZ.out i k) (by have := RK.out.mm; unfold maxLen; omega)
                have HPUT := hid hput
                have S1 := hid (RK.out.st.note hgp hhas)
                have hb5 : wr.heap.size ≤ w5.heap.size := hgp.size
                clear hput hhas hgp
                have hbx5 : w5.cell? ⟨nb, 0, none⟩ = some (.string (a.id i)) := (S1.out.cell (j := 6) (g := nb) (c := 1) (by show 6 < 7 + 2 * a.n; omega) (by rw [RBX.out.1, RBX.out.2.1]) (by rw [RBX.out.2.1]; show 0 < 1 * 2; omega) (by rw [RBX.out.2.2]; rfl)).1
                obtain ⟨y4, c4, hv4⟩ := owns_form RK.out.own4
                have hq1 : w5.cell? ⟨gq, 1, none⟩ = some (.slice y4 (n' 4) c4) ∧ w5.frozen? ⟨gq, 1, none⟩ = false := S1.out.cell (j := 0) (g := gq) (c := 1) (by show 0 < 7 + 2 * a.n; omega) (by rw [RK.out.v0, RK.out.n0]) (by rw [RK.out.n0]; show 1 < 1 * 4; omega) (by rw [RK.out.x0, ← hv4]; rfl)
                obtain ⟨hq1, hfq1⟩ := hq1
                have hgq5 : gq < w5.heap.size := block_lt_of_cell hq1
                have hnb5 : nb < w5.heap.size := block_lt_of_cell hbx5
                go_wp2_with (first | (at_lookup; refine wpList_lookup_run _ rfl (.tmp 42) (.tmp 43) 23 true rfl _ _ _ rfl rfl hrun.out ?_) | (at_lookup; refine wpList_lookup_run _ rfl (.tmp 55) (.tmp 58) 61 false rfl _ _ _ rfl rfl hlook.out ?_) | (at_mapUpdate; refine wpList_mapUpdate_run _ rfl (.tmp 61) (.tmp 64) (.const (.bool true)) 61 rfl _ _ _ rfl rfl rfl _ HPUT.out ?_))
                go_frame
                have hml := ml_len (ok := ok) (k := k) HFM.out (base := mbOf p) (i := i) (by omega) (by omega)
                have hn4 := RK.out.n4
                rw [mb_len] at hml
                have hn4' : n' 4 ≤ 536870912 := by omega
                clear hml hn4
                go_region_law (refine step_append_own_at rfl (.tmp 69) (.tmp 74) 54 rfl q.b1 57 i57 (.agg #[.string ByteArray.empty, .string ByteArray.empty]) 2 32 Try.underlying54 hinf57 hz570 hz571 hz572 rfl (by decide) (.slice y4 (n' 4) c4) (n' 4) (xs' 4) (by simp [Act.eval]) (by rw [← hv4]; exact (S1.out.own 4 (by show 4 < 7 + 2 * a.n; omega)).alloc _) ⟨w5.heap.size, 0, none⟩ 1 1 [.string (a.id i), .string (a.s i k)] (by simp [Act.eval]) rfl (by exact cell_two_new w5 _ _ 57) (str_two _ _) (by unfold maxLen; omega) (by omega) (by simp; omega) ?_; intro v6 w6 hown6 hgr6 hnil6 hat6; obtain ⟨y6, c6, hv6⟩ := owns_form hown6; subst hv6; have S2 := hid (St.grow4 (S1.out.alloc (.cells #[.string (a.id i), .string (a.s i k)] 57)).drew hown6 (by rw [hv4]; exact hgr6) (by rw [hv4]; exact hnil6) (by rw [hv4]; exact hat6)); have hq6 := S2.out.cell (j := 0) (g := gq) (c := 1) (q := 1) (by show 0 < 7 + 2 * a.n; omega) (by rw [upd_ne _ _ (by omega), upd_ne _ _ (by omega), RK.out.v0, RK.out.n0]) (by rw [upd_ne _ _ (by omega), RK.out.n0]; show 1 < 1 * 4; omega) (by rw [upd_ne _ _ (by omega), RK.out.x0]; rfl); obtain ⟨hq6, hfq6⟩ := hq6; clear hown6 hgr6 hnil6 hat6)
                all_goals
                  go_wp2_with fail
                  go_roundw
                  case rel =>
                    have S3 := S2.out.store (j := 0) (g := gq) (c := 1) (by show 0 < 7 + 2 * a.n; omega) (by rw [upd_ne _ _ (by omega), upd_ne _ _ (by omega), RK.out.v0, RK.out.n0]) 1 (.slice y6 (n' 4 + 1) c6)
                    rw [upd_ne xs' _ (show 0 ≠ 4 by omega)] at S3
                    have RN := RK.out.miss (du_none HTN.out) HMN.out S3
                    exact ⟨k + 1, _, _, _, _, _, _, by omega, by go_num, by rw [HSU.out], RN, ⟨by rw [upd_ne _ _ (by omega)]; exact RBX.out.1, by rw [upd_ne _ _ (by omega)]; exact RBX.out.2.1, by rw [upd_ne _ _ (by omega), upd_ne _ _ (by omega)]; exact RBX.out.2.2⟩⟩
                  case measure => simp [intOf]; omega
            | true =>
              rw [hok] at hrun
              obtain ⟨hv1, hv2⟩ := HV.out i hlt k hkl HNE.out hok
              obtain ⟨x, hvx⟩ : ∃ x : Nat, val (a.s i k) = (x : Int) := ⟨(val (a.s i k)).toNat, by omega⟩
              have HT := hid (tg_yes (val := val) HNE.out hok)
              have HMO := hid (mu_ok (idv := a.id i) hok)
              rw [hvx] at hrun HT hv2
              clear hok hvx hv1
              have hxn : x < a.n := by omega
              have hLc := RK.out.st.cell (j := 3) (g := w2.heap.size) (c := a.n) (q := x) (by show 3 < 7 + 2 * a.n; omega) (by rw [RK.out.v3, RK.out.n3]) (by rw [RK.out.n3]; show x < a.n * 1; omega) (by rw [RK.out.x3]; exact vals_at hxn)
              obtain ⟨hL0, hLf⟩ := hLc
              have hlb := RK.out.lb x hxn
              by_cases hLi : L' x = i + 1
              · have hLi' : (L' x != (i : Int) + 1) = false := by simpa using hLi
                have RN := hid (RK.out.same (du_old HT.out (hlb.2.2.1 hLi)) HMO.out)
                clear hLi hlb
                go_wp2_with (at_lookup; refine wpList_lookup_run _ rfl (.tmp 42) (.tmp 43) 23 true rfl _ _ _ rfl rfl hrun.out ?_)
                go_roundw
                case rel => exact ⟨k + 1, _, _, _, _, _, _, by omega, by go_num, by rw [HSU.out], RN.out, RBX.out⟩
                case measure => simp [intOf]; omega
              · have hLi' : (L' x != (i : Int) + 1) = true := by simpa using hLi
                have HND : Hid ((x : Int) ∉ D a ok val i k) := fun h => hLi (hlb.2.2.2 h)
                have HDN := hid (du_new HT.out HND.out)
                clear hLi hlb
                have S1 := hid (RK.out.st.store (j := 3) (g := w2.heap.size) (c := a.n) (by show 3 < 7 + 2 * a.n; omega) (by rw [RK.out.v3, RK.out.n3]) x (.int .i64 ((i : Int) + 1)))
                obtain ⟨W1, hW1⟩ : ∃ W1, wr.setCell ⟨w2.heap.size, x, none⟩ (.int .i64 ((i : Int) + 1)) = W1 := ⟨_, rfl⟩
                rw [hW1] at S1
                have hs1 : w.heap.size ≤ W1.heap.size := S1.out.size
                have h7 : 7 + i < 7 + 2 * a.n := by omega
                have h8 : 7 + a.n + x < 7 + 2 * a.n := by omega
                obtain ⟨y7, c7, hv7⟩ := owns_form (RK.out.big (j := 7 + i) (by omega) h7)
                obtain ⟨y8, c8, hv8⟩ := owns_form (RK.out.big (j := 7 + a.n + x) (by omega) h8)
                have hD0 := S1.out.cell (j := 1) (g := w.heap.size) (c := a.n) (q := i) (u := .slice y7 (n' (7 + i)) c7) (by show 1 < 7 + 2 * a.n; omega) (by rw [RK.out.v1, RK.out.n1]) (by rw [RK.out.n1]; show i < a.n * 1; omega) (by rw [upd_ne _ _ (by omega), RK.out.x1, vals_at hlt, hv7])
                obtain ⟨hD0, hDf⟩ := hD0
                have HO7 : Hid (W1.ownsRow w.heap.size 3 1 (.slice y7 (n' (7 + i)) c7) (n' (7 + i)) (xs' (7 + i))) := by
                  have := S1.out.own (7 + i) h7
                  obtain ⟨e1, e2, e3, _⟩ := sh_big (N := a.n) (B0 := w.heap.size) (gE := w1.heap.size) (gL := w2.heap.size) (gM := w3.heap.size) (gq := gq) (b1 := q.b1) (b2 := q.b2) (b3 := q.b3) (nM := p.nM) (nS := p.nS) (zM := q.yM = none) (zS := q.yS = none) (j := 7 + i) (by omega)
                  rw [e1, e2, e3, hv7, upd_ne _ _ (by omega)] at this; exact this
                have hn7 : n' (7 + i) ≤ 4096 := by rw [(RK.out.x7 i hlt).2]; exact dl_len HFM.out (by omega) (by omega)
                have hn8 : n' (7 + a.n + x) ≤ 65537 := by rw [(RK.out.x8 x hxn).2]; have := el_len (a := a) (ok := ok) (val := val) (i := i) (k := k) (d := x); omega
                have hix : (x : Int) < a.n := by omega
                go_wp2_with (first | (at_lookup; refine wpList_lookup_run _ rfl (.tmp 42) (.tmp 43) 23 true rfl _ _ _ rfl rfl hrun.out ?_) | (at_builtin; refine wpList_append_own_at _ rfl (.tmp 96) (.tmp 98) 39 rfl w.heap.size 3 i3 (.int .i64 0) 1 8 Try.underlying39 hinf3 hz30 hz31 hz32 rfl (by decide) _ _ _ rfl (HO7.out.alloc _) ⟨W1.heap.size, 0, none⟩ 1 1 [.int .i64 (x : Int)] rfl rfl (cell_one_new _ _ _) (ints_oneCell .i64 [(x : Int)]) (by unfold maxLen; omega) (by omega) (by simp; omega) ?_; intro v6 w6 hown6 hgr6 hnil6 hat6; obtain ⟨y6, c6, hv6⟩ := owns_form hown6; subst hv6; have S2 := hid (St.grow (j := 7 + i) (S1.out.alloc (.cells #[.int .i64 (x : Int)] 3)) (by omega) h7 hown6 (by rw [hv7]; exact hgr6) (by rw [hv7]; exact hnil6) (by rw [hv7]; exact hat6)); have hD6 := S2.out.cell (j := 1) (g := w.heap.size) (c := a.n) (q := i) (u := .slice y7 (n' (7 + i)) c7) (by show 1 < 7 + 2 * a.n; omega) (by rw [upd_ne _ _ (by omega), upd_ne _ _ (by omega), RK.out.v1, RK.out.n1]) (by rw [upd_ne _ _ (by omega), RK.out.n1]; show i < a.n * 1; omega) (by rw [upd_ne _ _ (by omega), upd_ne _ _ (by omega), RK.out.x1, vals_at hlt, hv7]); obtain ⟨hD6, hDf6⟩ := hD6; clear hown6 hgr6 hnil6 hat6; have S3 := hid (dep3 RK.out S2.out hlt); obtain ⟨W3, hW3⟩ : ∃ W3, w6.setCell ⟨w.heap.size, i, none⟩ (.slice y6 (n' (7 + i) + 1) c6) = W3 := ⟨_, rfl⟩; rw [hW3] at S3; obtain ⟨hE0, hEf, hO8⟩ := dep4 RK.out S3.out hlt hxn hv8; have hs3 : w.heap.size ≤ W3.heap.size := S3.out.size; have HO8 := hid hO8; clear hO8 S2) | (at_builtin; refine wpList_append_own_at _ rfl (.tmp 106) (.tmp 108) 39 rfl w.heap.size 3 i3 (.int .i64 0) 1 8 Try.underlying39 hinf3 hz30 hz31 hz32 rfl (by decide) _ _ _ rfl (HO8.out.alloc _) ⟨W3.heap.size, 0, none⟩ 1 1 [.int .i64 (i : Int)] rfl rfl (cell_one_new _ _ _) (ints_oneCell .i64 [(i : Int)]) (by unfold maxLen; omega) (by omega) (by simp; omega) ?_; intro v9 w9 hown9 hgr9 hnil9 hat9; obtain ⟨y9, c9, hv9⟩ := owns_form hown9; subst hv9; have S4 := hid (dep5 RK.out (S3.out.alloc (.cells #[.int .i64 (i : Int)] 3)) hlt hxn hv8 hown9 hgr9 hnil9 hat9); have hE9 := dep6 RK.out S4.out hlt hxn; obtain ⟨o9, hE9, hEf9⟩ := hE9; clear hown9 hgr9 hnil9 hat9))
                go_roundw
                case rel =>
                  have S5 := dep7 RK.out S4.out hlt hxn
                  have RN := RK.out.dep hlt hxn HDN.out HND.out HMO.out S5
                  exact ⟨k + 1, _, _, _, _, _, _, by omega, by go_num, by rw [HSU.out], RN, bx_dep RBX.out⟩
                case measure => simp [intOf]; omega
        · have hkm' : k = a.m i := by omega
          subst hkm'
          cases hU : su (a.id i) (a.s i) (a.m i) with
          | false =>
            have RN := hid (RK.out.next hm4 (by have : U a i = false := hU
                                                rw [this]; rfl))
            clear hU
            go_wp2_with fail
            go_roundw
            case rel => exact ⟨i + 1, _, _, _, _, _, _, by omega, by go_num, RN.out⟩
            case measure => simp [intOf]; omega
          | true =>
            have HU : Hid (U a i = true) := hU
            clear hU
            have hsz' := RK.out.st.size
            have hbx0 : wr.cell? ⟨nb, 0, none⟩ = some (.string (a.id i)) := (RK.out.st.cell (j := 6) (g := nb) (c := 1) (by show 6 < 7 + 2 * a.n; omega) (by rw [RBX.out.1, RBX.out.2.1]) (by rw [RBX.out.2.1]; show 0 < 1 * 2; omega) (by rw [RBX.out.2.2]; rfl)).1
            obtain ⟨y5, c5, hv5⟩ := owns_form RK.out.own5
            have hq2 : wr.cell? ⟨gq, 2, none⟩ = some (.slice y5 (n' 5) c5) ∧ wr.frozen? ⟨gq, 2, none⟩ = false := RK.out.st.cell (j := 0) (g := gq) (c := 1) (by show 0 < 7 + 2 * a.n; omega) (by rw [RK.out.v0, RK.out.n0]) (by rw [RK.out.n0]; show 2 < 1 * 4; omega) (by rw [RK.out.x0, ← hv5]; rfl)
            obtain ⟨hq2, hfq2⟩ := hq2
            have hgq5 : gq < wr.heap.size := block_lt_of_cell hq2
            have hnb5 : nb < wr.heap.size := block_lt_of_cell hbx0
            have hsl := sl_len (a := a) (base := sbOf p) (i := i)
            have hn5 := RK.out.n5
            rw [sb_len] at hsl
            have hn5' : n' 5 ≤ 536870912 := by omega
            clear hsl hn5
            go_wp2_with fail
            go_region_law (refine step_append_own_at rfl (.tmp 117) (.tmp 120) 24 rfl q.b2 9 i9 (.string ByteArray.empty) 1 16 Try.underlying24 hinf9 hz90 hz91 hz92 rfl (by decide) (.slice y5 (n' 5) c5) (n' 5) (xs' 5) (by simp [Act.eval]) (by rw [← hv5]; exact RK.out.own5.alloc _) ⟨wr.heap.size, 0, none⟩ 1 1 [.string (a.id i)] (by simp [Act.eval]) rfl (by exact cell_one_new wr _ 9) (by intro u hu; simp at hu; subst hu; rfl) (by unfold maxLen; omega) (by omega) (by simp; omega) ?_; intro v6 w6 hown6 hgr6 hnil6 hat6; obtain ⟨y6, c6, hv6⟩ := owns_form hown6; subst hv6; have S2 := hid (St.grow5 (RK.out.st.alloc (.cells #[.string (a.id i)] 9)).drew hown6 (by rw [hv5]; exact hgr6) (by rw [hv5]; exact hnil6) (by rw [hv5]; exact hat6)); have hq6 := S2.out.cell (j := 0) (g := gq) (c := 1) (q := 2) (by show 0 < 7 + 2 * a.n; omega) (by rw [upd_ne _ _ (by omega), upd_ne _ _ (by omega), RK.out.v0, RK.out.n0]) (by rw [upd_ne _ _ (by omega), RK.out.n0]; show 2 < 1 * 4; omega) (by rw [upd_ne _ _ (by omega), RK.out.x0]; rfl); obtain ⟨hq6, hfq6⟩ := hq6; clear hown6 hgr6 hnil6 hat6)
            all_goals
              go_wp2_with fail
              go_roundw
              case rel =>
                have S3 := S2.out.store (j := 0) (g := gq) (c := 1) (by show 0 < 7 + 2 * a.n; omega) (by rw [upd_ne _ _ (by omega), upd_ne _ _ (by omega), RK.out.v0, RK.out.n0]) 2 (.slice y6 (n' 5 + 1) c6)
                rw [upd_ne xs' _ (show 0 ≠ 5 by omega)] at S3
                exact ⟨i + 1, _, _, _, _, _, _, by omega, by go_num, RK.out.selfd hm4 HU.out S3⟩
              case measure => simp [intOf]; omega
    · have hin' : i = a.n := by omega
      subst hin'
      go_wp2_with fail
      go_ret2
      exact ⟨_, _, _, _, _, _, _, _, _, rfl, k1, R.out⟩
end Go.Proofs.Qxb6603999a.Res

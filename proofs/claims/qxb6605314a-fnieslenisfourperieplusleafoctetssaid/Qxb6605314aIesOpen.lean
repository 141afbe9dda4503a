import Derived.Test.Qxb6605314aIesTree
import Derived.WalkKit
import Derived.ProofKit
import Derived.OpenShut
namespace Go.Proofs.Qxb6605314a.IesOpen
open Go.ChangeShapes Go.WideShapes Go.ChangeAt Go.RowKit Go.Proofs.Qxb6605314a.IesTree

theorem cells38 : Try.prog.cellsOf 38 = 4 := by kernel_rfl
theorem cells22 : Try.prog.cellsOf 22 = 1 := by kernel_rfl
theorem cells36 : Try.prog.cellsOf 36 = 1 := by kernel_rfl
theorem cells5 : Try.prog.cellsOf 5 = 1 := by kernel_rfl

variable {H : Type} {enc : TypeId × Value → H} {w : World} {base : Nat} {spare : Nat → Bool} {held : Bool}

/-- The octets of a value. -/
theorem oct_of {fuel : Nat} {cs : List Value} {x : DataW H × List MemPlace} (h : DataW.trod enc Try.prog w base spare held fuel 36 cs = some x) : ∃ y n c, cs = [.slice y n c] ∧ Oct w y n := by
  rcases open_ints Try.underlying36 Try.underlying5 cells5 h with ⟨hcs, _⟩ | ⟨a, l, c, zs, hcs, _, hl, hm, hz, _, hcell, _⟩
  · exact ⟨none, 0, 0, hcs, fun _ => 0, fun h => by omega⟩
  · refine ⟨some a, l, c, hcs, fun j => zs.getD j 0, fun h0 => ?_⟩
    have hzl : l ≤ zs.length := by rw [hz]; split <;> omega
    obtain ⟨b, off, rfl, hc⟩ := ints_at hcell (by omega)
    exact ⟨b, off, rfl, block_lt_of_cell (hc 0 (by omega)), fun j hj => hc j (by omega)⟩

/-- A node's four cells, and what they lead to. -/
theorem nod_of {n : Nat} {cs : List Value} {x : DataW H × List MemPlace} (h : DataW.trod enc Try.prog w base spare held n 38 cs = some x) :
    ∃ t i vx vn vc m c3 x3, n = m + 1 ∧ cs = [.int .u8 t, .int .u8 i, .slice vx vn vc, c3] ∧ Oct w vx vn ∧ DataW.trod enc Try.prog w base spare held m 22 [c3] = some x3 := by
  obtain ⟨xs, m, hn, hx, hl, hxl, hf⟩ := DataW.trod_struct Try.underlying38 h
  rw [cells38] at hl
  match cs, hl, xs, hxl with
  | [c0, c1, c2, c3], _, [x0, x1, x2, x3], _ =>
    have f0 : DataW.trod enc Try.prog w base spare held m 5 (([c0, c1, c2, c3].drop 0).take (Try.prog.cellsOf 5)) = some x0 := hf 0 _ rfl
    have f1 : DataW.trod enc Try.prog w base spare held m 5 (([c0, c1, c2, c3].drop 1).take (Try.prog.cellsOf 5)) = some x1 := hf 1 _ rfl
    have f2 : DataW.trod enc Try.prog w base spare held m 36 (([c0, c1, c2, c3].drop 2).take (Try.prog.cellsOf 36)) = some x2 := hf 2 _ rfl
    have f3 : DataW.trod enc Try.prog w base spare held m 22 (([c0, c1, c2, c3].drop 3).take (Try.prog.cellsOf 22)) = some x3 := hf 3 _ rfl
    rw [cells5] at f0 f1
    rw [cells36] at f2
    rw [cells22] at f3
    obtain ⟨t, h0, _, _⟩ := DataW.trod_int Try.underlying5 f0
    obtain ⟨i, h1, _, _⟩ := DataW.trod_int Try.underlying5 f1
    obtain ⟨vx, vn, vc, h2, ho⟩ := oct_of f2
    simp at h0 h1 h2
    subst h0 h1 h2
    exact ⟨t, i, vx, vn, vc, m, c3, x3, hn, rfl, ho, f3⟩

/-- A list for the choice of nodes: each index has its node. -/
theorem list_of {n : Nat} {p : Nat → Nod → Prop} (h : ∀ i, i < n → ∃ a, p i a) : ∃ l : List Nod, l.length = n ∧ ∀ (j : Nat) (a : Nod), l[j]? = some a → p j a := by
  induction n with
  | zero => exact ⟨[], rfl, fun j a h => by simp at h⟩
  | succ n ih =>
    obtain ⟨l, hl, hp⟩ := ih fun i hi => h i (by omega)
    obtain ⟨a, ha⟩ := h n (by omega)
    refine ⟨l ++ [a], by simp [hl], fun j b hb => ?_⟩
    by_cases hj : j < n
    · rw [List.getElem?_append_left (by omega)] at hb; exact hp j b hb
    · by_cases e : j = n
      · subst e
        rw [List.getElem?_append_right (by omega), hl] at hb
        simp at hb
        subst hb; exact ha
      · rw [List.getElem?_eq_none (by simp; omega)] at hb; cases hb

theorem Fi.deeper {w : World} : ∀ (d d' : Nat), d ≤ d' → ∀ x l, Fi d w x l → Fi d' w x l
  | 0, d', _, x, l, h => by have h' : l = [] := h
                            subst h'; exact Fr.mk_nil
  | d + 1, 0, h, _, _, _ => by omega
  | d + 1, d' + 1, hd, x, l, h => fun hl => by
    obtain ⟨b, off, h1, h2, h3, h4⟩ := h hl
    exact ⟨b, off, h1, h2, h3, fun j a ha => ⟨(h4 j a ha).1, (h4 j a ha).2.imp (fun _ _ h => h) (fun x l h => Fi.deeper d d' (by omega) x l h)⟩⟩

theorem fi_of (fuel : Nat) : ∀ (cs : List Value) (x : DataW H × List MemPlace), DataW.trod enc Try.prog w base spare held fuel 22 cs = some x → ∃ y n c l, cs = [.slice y n c] ∧ l.length = n ∧ (y = none → n = 0) ∧ Fi fuel w y l := by
  induction fuel using Nat.strongRecOn with
  | ind fuel ih =>
    intro cs x h
    rcases DataW.trod_slice Try.underlying22 h with ⟨hcs, _⟩ | ⟨a, len, cap, elems, rest, n, hn, hcs, _, hb, hl, hm, hlen, hel, _, _⟩
    · exact ⟨none, 0, 0, [], hcs, rfl, fun _ => rfl, Fr.mk_nil⟩
    · subst hn
      rw [cells38] at hel
      rcases Nat.eq_zero_or_pos len with h0 | h0
      · subst h0
        exact ⟨some a, 0, cap, [], hcs, rfl, fun _ => rfl, Fr.mk_nil⟩
      · have hspot : a.spot = none := by
          have h1 := hel 0 h0
          rw [List.getElem?_eq_getElem (by omega)] at h1
          obtain ⟨cs', h2, h3⟩ := Option.bind_eq_some_iff.1 h1
          obtain ⟨t, ii, vx, vn, vc, m, c3, x3, hm', rfl, ho, h4⟩ := nod_of h3
          obtain ⟨_, _, hc⟩ := World.cells?_some h2
          have q0 := hc 0 (by omega)
          simpa [Addr.add] using World.cell?_spot q0
        obtain ⟨b, off, spot⟩ := a
        simp only at hspot
        subst hspot
        -- each element is a node
        obtain ⟨l, hll, hal⟩ := list_of (n := len) (p := fun i a' => (b < w.heap.size ∧ At w b (off + i * 4) a') ∧ NodOk (Oct w) (Fi n w) a') (by
          intro i hi
          have h1 := hel i hi
          rw [List.getElem?_eq_getElem (by omega), Go.WideShapes.add_plain] at h1
          obtain ⟨cs', h2, h3⟩ := Option.bind_eq_some_iff.1 h1
          obtain ⟨t, ii, vx, vn, vc, m, c3, x3, hm', rfl, ho, h4⟩ := nod_of h3
          obtain ⟨ky, kn, kc, kl, hk1, hk2, hk3, hk4⟩ := ih m (by omega) [c3] x3 h4
          simp only [List.cons.injEq, and_true] at hk1
          subst hk1
          obtain ⟨_, _, hc⟩ := World.cells?_some h2
          have q0 := hc 0 (by omega)
          have q1 := hc 1 (by omega)
          have q2 := hc 2 (by omega)
          have q3 := hc 3 (by omega)
          rw [Go.WideShapes.add_plain] at q0 q1 q2 q3
          cases ky with
          | none =>
            have hkn := hk3 rfl
            subst hkn
            exact ⟨{ t := t, i := ii, vx := vx, vn := vn, vc := vc, kx := none, kn := 0, kc := kc, N := 1, M := vn, V := vn }, ⟨block_lt_of_cell q0, q0, q1, q2, q3⟩, ho, .inl ⟨rfl, rfl, rfl, rfl, rfl⟩⟩
          | some kk =>
            exact ⟨{ t := t, i := ii, vx := vx, vn := vn, vc := vc, kx := some kk, kn := kn, kc := kc, N := sumN kl + 1, M := sumM kl, V := vn + sumV kl }, ⟨block_lt_of_cell q0, q0, q1, q2, q3⟩, ho, .inr ⟨kk, kl, rfl, Fi.deeper m n (by omega) _ _ hk4, hk2, rfl, rfl, rfl⟩⟩)
        refine ⟨some ⟨b, off, none⟩, len, cap, l, hcs, hll, fun h => by simp at h, fun _ => ?_⟩
        obtain ⟨a0, ha0⟩ : ∃ a0, l[0]? = some a0 := ⟨l[0], by simp⟩
        exact ⟨b, off, rfl, (hal 0 a0 ha0).1.1, trivial, fun j a' ha' => ⟨(hal j a' ha').1.2, (hal j a' ha').2⟩⟩
end Go.Proofs.Qxb6605314a.IesOpen

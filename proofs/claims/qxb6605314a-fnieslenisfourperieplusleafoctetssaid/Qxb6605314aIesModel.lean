import Derived.Test.Qxb6605314aIesTree
import Derived.Maps.AppendAt
import Derived.WalkSmall
namespace Go.Proofs.Qxb6605314a.IesModel
open Go.RowKit Go.Proofs.Qxb6605314a.IesTree

theorem hid {p : Prop} (h : p) : Hid p := h
theorem info38 : (Try.prog.info? 38).map (fun i => (i.zero, i.size, i.bytes)) = some (some (.agg #[.int .u8 0, .int .u8 0, .slice none 0 0, .slice none 0 0]), 4, 56) := by kernel_rfl

/-- The cells of a list of nodes. -/
def cellsOf (p : List Nod) : List Value := p.flatMap Nod.cells
theorem cellsOf_snoc (p : List Nod) (a : Nod) : cellsOf (p ++ [a]) = cellsOf p ++ a.cells := by simp [cellsOf]
theorem cellsOf_len (p : List Nod) : (cellsOf p).length = p.length * 4 := by
  induction p with
  | nil => rfl
  | cons a p ih => simp only [cellsOf, List.flatMap_cons, List.length_append, List.length_cons] at *; rw [ih]; simp [Nod.cells]; omega

theorem owns_form {w : World} {B e s n : Nat} {v : Value} {xs : List Value} (h : w.ownsRow B e s v n xs) : ∃ y c, v = .slice y n c := by
  rcases h.2 with ⟨h1, h2⟩ | ⟨g, cap, cur, h1, _⟩
  · exact ⟨none, 0, by rw [h2]; exact h1⟩
  · exact ⟨_, _, h1⟩

/-- A node that came in, at whatever depth. -/
def Ok (w : World) (a : Nod) : Prop := ∃ d, NodOk (Oct w) (Fi d w) a

theorem fi_ok {d : Nat} {w : World} {x : Option Addr} {l : List Nod} (h : Fi d w x l) : ∀ a ∈ l, Ok w a := by
  intro a ha
  cases d with
  | zero => have h' : l = [] := h
            subst h'; simp at ha
  | succ d =>
    obtain ⟨j, hj⟩ := List.getElem?_of_mem ha
    obtain ⟨b, off, _, _, _, hh⟩ := h (by intro e; subst e; simp at ha)
    exact ⟨d, (hh j a hj).2⟩

/-- Where the nodes of a list that came in lie. -/
theorem fi_at {d : Nat} {w : World} {x : Option Addr} {l : List Nod} (h : Fi d w x l) (hl : 0 < l.length) : ∃ b off, x = some ⟨b, off, none⟩ ∧ b < w.heap.size ∧ ∀ (j : Nat) (a : Nod), l[j]? = some a → At w b (off + j * 4) a := by
  cases d with
  | zero => have h' : l = [] := h
            subst h'; simp at hl
  | succ d =>
    obtain ⟨b, off, h1, h2, _, hh⟩ := h (by intro e; subst e; simp at hl)
    exact ⟨b, off, h1, h2, fun j a hj => (hh j a hj).1⟩

theorem cells_new (w : World) (a : Nod) : ∀ j u, a.cells[j]? = some u → (w.alloc (.cells #[.int .u8 a.t, .int .u8 a.i, .slice a.vx a.vn a.vc, .slice a.kx a.kn a.kc] 38)).cell? ((⟨w.heap.size, 0, none⟩ : Addr).add j) = some u := by
  intro j u hj
  match j, hj with
  | 0, hj => simp [Nod.cells] at hj; subst hj; simp [Addr.add]
  | 1, hj => simp [Nod.cells] at hj; subst hj; simp [Addr.add]
  | 2, hj => simp [Nod.cells] at hj; subst hj; simp [Addr.add]
  | 3, hj => simp [Nod.cells] at hj; subst hj; simp [Addr.add]
  | j + 4, hj => simp [Nod.cells] at hj
theorem cells_one (a : Nod) : ∀ u ∈ a.cells, u.oneCell' = true := by
  intro u hu
  simp only [Nod.cells, List.mem_cons, List.not_mem_nil, or_false] at hu
  rcases hu with rfl | rfl | rfl | rfl <;> rfl

/-- The cells of the last of the nodes of an owned row. -/
theorem top_cells {w : World} {B g cap : Nat} {p : List Nod} {a : Nod} (h : w.ownsRow B 38 4 (.slice (some ⟨g, 0, none⟩) (p.length + 1) cap) (p.length + 1) (cellsOf p ++ a.cells)) :
    w.cell? ⟨g, p.length * 4, none⟩ = some (.int .u8 a.t) ∧ w.cell? ⟨g, p.length * 4 + 1, none⟩ = some (.int .u8 a.i) ∧ w.cell? ⟨g, p.length * 4 + 2, none⟩ = some (.slice a.vx a.vn a.vc) ∧ w.cell? ⟨g, p.length * 4 + 3, none⟩ = some (.slice a.kx a.kn a.kc) := by
  have hl := cellsOf_len p
  refine ⟨?_, ?_, ?_, ?_⟩
  · rw [h.cellAt _ (by omega), List.getElem?_append_right (by omega), hl, Nat.sub_self]; rfl
  · rw [h.cellAt _ (by omega), List.getElem?_append_right (by omega), hl, Nat.add_sub_cancel_left]; rfl
  · rw [h.cellAt _ (by omega), List.getElem?_append_right (by omega), hl, Nat.add_sub_cancel_left]; rfl
  · rw [h.cellAt _ (by omega), List.getElem?_append_right (by omega), hl, Nat.add_sub_cancel_left]; rfl

theorem start3 {w wr : World} {B g cap bx : Nat} {p : List Nod} (ho : wr.ownsRow B 38 4 (.slice (some ⟨g, 0, none⟩) p.length cap) p.length (cellsOf p)) (hbx : wr.heap.size = bx) (hg : g < bx) (hb : Below B w wr) (hB : B ≤ bx) (kl : List Nod) (c0 c1 c2 c3 : Value) :
    (wr.alloc (.cells #[c0, c1, c2, c3] 38)).ownsRow B 38 4 (.slice (some ⟨g, 0, none⟩) (p.length + 0) cap) (p.length + 0) (cellsOf (p ++ kl.take 0)) ∧ (wr.alloc (.cells #[c0, c1, c2, c3] 38)).cell? ⟨bx, 3, none⟩ = some c3 ∧
    Hid (Value.ownBlock (.slice (some ⟨g, 0, none⟩) (p.length + 0) cap) ≠ some bx) ∧ bx < (wr.alloc (.cells #[c0, c1, c2, c3] 38)).heap.size ∧ Below B w (wr.alloc (.cells #[c0, c1, c2, c3] 38)) := by
  subst hbx
  refine ⟨?_, by simp, ?_, by simp, hb.alloc hB _⟩
  · simpa using ho.alloc _
  · unfold Hid
    intro h
    simp [Value.ownBlock] at h
    omega

set_option maxHeartbeats 2000000 in
theorem f11_any (d : Nat) (x : Option Addr) (l : List Nod) (c : Nat) (w : World) (hf : Fi d w x l) (h0 : sumN l ≤ 1048576) (h1 : sumM l ≤ 1048576) :
    Calls Try.prog 11 #[.slice x l.length c] w fun e w' => e = .returned (.int .i64 (4 * (sumN l : Int) + sumM l)) ∧ Below w.heap.size w w' := by
  obtain ⟨i0, hi, hz0, hz1, hz2⟩ := info_parts info38
  have q : ∀ (w : World) (a : Option Addr) (n c n' c' : Nat), (binOp .neq 22 (.slice a n c) (.slice none n' c')).run Try.prog w = .ok (.bool (!a.isNone)) w := fun w a n c n' c' => run_neq_slice_nil_any w _ _ a n c n' c' Try.underlying22
  have hlen := hf.len
  have HF := hid hf
  clear hf
  go_enter Try.func11, Try.ntmps11
  go_wp2_with (refine wpList_make_own _ rfl (.const (.int .i64 0)) (.tmp 10) 22 rfl w.heap.size 38 i0 (.agg #[.int .u8 0, .int .u8 0, .slice none 0 0, .slice none 0 0]) 4 Try.underlying22 hi hz0 hz1 .i64 .i64 _ l.length rfl rfl rfl (by rw [hz2]; omega) (by unfold maxLen; omega) (Nat.le_refl _) ?_; intro w1 hown hgr)
  go_loopw [5, 6] (fun v i wr => ∃ (k : Nat) (y : Option Addr) (cap : Nat), k ≤ l.length ∧ i = .int .i64 k ∧ v = .slice y k cap ∧ wr.ownsRow w.heap.size 38 4 (.slice y k cap) k (cellsOf (l.take k)) ∧ Below w.heap.size w wr) (fun _ i _ => l.length - (intOf i).toNat)
  case atStart => exact ⟨0, _, _, Nat.zero_le _, rfl, rfl, hown, (Below.refl _ _).grown hgr (Nat.le_refl _) (by simp)⟩
  case round =>
    obtain ⟨k, y, cap, hk, rfl, rfl, hownr, hbel⟩ := hrel
    clear hown hgr
    by_cases hlt : k < l.length
    · obtain ⟨a, ha⟩ : ∃ a, l[k]? = some a := ⟨l[k], by simp⟩
      obtain ⟨b, off, hx, hb, hj⟩ := fi_at HF.out (by omega)
      subst hx
      obtain ⟨c0, c1, c2, c3⟩ := (hj k a ha).same (w' := wr) (hbel.block b hb)
      have HT := hid (take_snoc ha)
      have hsz := hbel.size
      have HO := hid hownr
      have HB := hid hbel
      clear hj ha hownr hbel
      go_wp2_with (at_builtin; refine wpList_append_own_at _ rfl (.tmp 18) (.tmp 23) 22 rfl w.heap.size 38 i0 (.agg #[.int .u8 0, .int .u8 0, .slice none 0 0, .slice none 0 0]) 4 56 Try.underlying22 hi hz0 hz1 hz2 rfl (by decide) _ _ _ rfl (HO.out.alloc _) ⟨wr.heap.size, 0, none⟩ 1 1 a.cells rfl rfl (cells_new wr a) (cells_one a) ?c3 ?c4 ?c5 ?_)
      case c3 => unfold maxLen; omega
      case c4 => omega
      case c5 => simp; omega
      · intro v' w2 hown' hgrow _ _
        obtain ⟨y', cap', hv⟩ := owns_form hown'
        subst hv
        rw [← cellsOf_snoc, ← HT.out] at hown'
        have hb2 := (HB.out.alloc hsz (.cells #[.int .u8 a.t, .int .u8 a.i, .slice a.vx a.vn a.vc, .slice a.kx a.kn a.kc] 38)).grown hgrow (by simp; omega) (fun g hg => (HO.out.lt g hg).1)
        have HO2 := hid hown'
        clear hown' hgrow
        go_wp2_with fail
        go_roundw
        case rel => exact ⟨k + 1, y', cap', by omega, by go_num, rfl, HO2.out, hb2⟩
        case measure => simp [intOf]; omega
    · have hkl : k = l.length := by omega
      subst hkl
      rw [List.take_of_length_le (Nat.le_refl _)] at hownr
      go_wp2_with fail
      go_loopw [3, 4, 5] (fun n t v wr => ∃ (nv tv : Nat) (p : List Nod) (y : Option Addr) (cap : Nat), n = .int .i64 nv ∧ t = .int .i64 tv ∧ v = .slice y p.length cap ∧ wr.ownsRow w.heap.size 38 4 (.slice y p.length cap) p.length (cellsOf p) ∧ (∀ a ∈ p, Ok w a) ∧ Hid (nv + sumN p = sumN l ∧ tv + sumM p = sumM l) ∧ Below w.heap.size w wr) (fun n _ _ _ => sumN l - (intOf n).toNat)
      case atStart => exact ⟨0, 0, l, y, cap, rfl, rfl, rfl, hownr, fi_ok HF.out, ⟨by omega, by omega⟩, hbel⟩
      case round =>
        clear hownr hbel
        obtain ⟨nv, tv, p, y2, cap2, rfl, rfl, rfl, hown2, hoks, HS, hbel⟩ := hrel
        rcases List.eq_nil_or_concat p with hp | ⟨p', a, hp⟩
        · subst hp
          have s1 : nv = sumN l := by have := HS.out.1; simpa [sumN] using this
          have s2 : tv = sumM l := by have := HS.out.2; simpa [sumM] using this
          subst s1 s2
          go_wp2_with fail
          go_ret
          exact ⟨rfl, hbel⟩
        · rw [List.concat_eq_append] at hp
          subst hp
          have hpl : (p' ++ [a]).length = p'.length + 1 := by simp
          rw [hpl] at hown2 ⊢
          rw [cellsOf_snoc] at hown2
          obtain ⟨g, hg, hcap⟩ : ∃ g, y2 = some ⟨g, 0, none⟩ ∧ p'.length + 1 ≤ cap2 := by
            rcases hown2.2 with ⟨h1, h2⟩ | ⟨g, cap, cur, h1, _, _, h2, _⟩
            · omega
            · simp only [Value.slice.injEq] at h1; exact ⟨g, h1.1, by omega⟩
          subst hg
          obtain ⟨e0, e1, e2, e3⟩ := top_cells hown2
          have hgl : g < wr.heap.size := (hown2.lt g rfl).2
          have HO := hid (ownsRow_pop (cellsOf_len p') hown2)
          have hoka : Ok w a := hoks a (by simp)
          have HOK := hid (fun b (hb : b ∈ p') => hoks b (by simp [hb]))
          have hsum := HS.out
          rw [sumN_app, sumM_app] at hsum
          have hpn : p'.length ≤ sumN p' := len_le p' fun j b hb => by obtain ⟨_, h⟩ := HOK.out b (List.mem_of_getElem? hb); exact h.pos
          have hsz := hbel.size
          have HB := hid hbel
          have HSum := hid hsum
          have u1 : sumN [a] = a.N := by simp [sumN]
          have u2 : sumM [a] = a.M := by simp [sumM]
          rw [u1, u2] at hsum
          clear u1 u2
          have hnv : nv + 1 ≤ 1048576 := by obtain ⟨_, h⟩ := hoka; have := h.pos; omega
          have htv : tv + a.M ≤ 1048576 := by omega
          have hpb : p'.length ≤ 1048576 := by omega
          obtain ⟨d2, hga⟩ := hoka
          have HGA := hid hga.2
          clear hown2 hoks hbel hga HS hpl
          rcases HGA.out with ⟨g1, g2, g3, g4, g5⟩ | ⟨kk, kl, g1, g2, g3, g4, g5, g6⟩
          · have HSl := hid (And.intro hsum (And.intro g3 g4))
            rw [g1, g2] at e3
            rw [g4] at htv
            clear g1 g2 g3 g4 g5 hsum HGA
            go_wp2_with fail
            go_roundw
            case rel => exact ⟨nv + 1, tv + a.vn, p', _, cap2, by go_num, by go_num, rfl, HO.out.alloc _, HOK.out, by have := HSl.out; unfold Hid; omega, HB.out.alloc hsz _⟩
            case measure => have := HSl.out; simp [intOf]; omega
          · have HSl := hid (And.intro hsum (And.intro g4 g5))
            have hkl1 : kl.length ≤ sumN kl := g2.len
            have hkb : p'.length + kl.length ≤ 1048576 := by omega
            have HFK := hid g2
            rw [g1, ← g3] at e3
            clear g1 g2 g3 g4 g5 g6 hsum HGA
            obtain ⟨bx, hbx⟩ : ∃ bx, wr.heap.size = bx := ⟨_, rfl⟩
            have hgbx : g < bx := by omega
            have hBbx : w.heap.size ≤ bx := by omega
            go_wp2_with fail
            go_loopw [5, 8] (fun v i w3 => ∃ (j : Nat) (y : Option Addr) (cap : Nat), j ≤ kl.length ∧ i = .int .i64 j ∧ v = .slice y (p'.length + j) cap ∧ w3.ownsRow w.heap.size 38 4 (.slice y (p'.length + j) cap) (p'.length + j) (cellsOf (p' ++ kl.take j)) ∧ w3.cell? ⟨bx, 3, none⟩ = some (.slice (some kk) kl.length a.kc) ∧ Hid (Value.ownBlock (.slice y (p'.length + j) cap) ≠ some bx) ∧ bx < w3.heap.size ∧ Below w.heap.size w w3) (fun _ i _ => kl.length - (intOf i).toNat)
            case atStart => exact ⟨0, _, cap2, Nat.zero_le _, rfl, rfl, start3 HO.out hbx hgbx HB.out hBbx kl _ _ _ _⟩
            case round =>
              obtain ⟨j, y3, cap3, hj3, rfl, rfl, hown3, hbox, HNE, hs3, hbel3⟩ := hrel
              by_cases hlt3 : j < kl.length
              · obtain ⟨e, he⟩ : ∃ e, kl[j]? = some e := ⟨kl[j], by simp⟩
                obtain ⟨b, off, hx, hb, hj⟩ := fi_at HFK.out (by omega)
                simp only [Option.some.injEq] at hx
                subst hx
                obtain ⟨c0, c1, c2, c3⟩ := (hj j e he).same (w' := wr) (hbel3.block b hb)
                have HT := hid (take_snoc he)
                have hsz3 := hbel3.size
                have HO3 := hid hown3
                have HB3 := hid hbel3
                have HBX := hid hbox
                clear hj he hown3 hbel3
                go_wp2_with (at_builtin; refine wpList_append_own_at _ rfl (.tmp 51) (.tmp 57) 22 rfl w.heap.size 38 i0 (.agg #[.int .u8 0, .int .u8 0, .slice none 0 0, .slice none 0 0]) 4 56 Try.underlying22 hi hz0 hz1 hz2 rfl (by decide) _ _ _ rfl (HO3.out.alloc _) ⟨wr.heap.size, 0, none⟩ 1 1 e.cells rfl rfl (cells_new wr e) (cells_one e) ?d3 ?d4 ?d5 ?_)
                case d3 => unfold maxLen; omega
                case d4 => omega
                case d5 => simp; omega
                · intro v' w4 hown4 hgrow _ hat
                  obtain ⟨y4, cap4, hv⟩ := owns_form hown4
                  subst hv
                  rw [← cellsOf_snoc, List.append_assoc, ← HT.out] at hown4
                  have hb4 := (HB3.out.alloc hsz3 (.cells #[.int .u8 e.t, .int .u8 e.i, .slice e.vx e.vn e.vc, .slice e.kx e.kn e.kc] 38)).grown hgrow (by simp; omega) (fun g hg => (HO3.out.lt g hg).1)
                  have hbox4 : w4.cell? ⟨bx, 3, none⟩ = some (.slice (some ⟨b, off, none⟩) kl.length a.kc) := hgrow.cell (((((Below.refl wr.heap.size wr).alloc (Nat.le_refl _) _).cell (p := ⟨bx, 3, none⟩) hs3)).trans HBX.out) (fun h => HNE.out h.symm)
                  have HO4 := hid hown4
                  have hs4 : bx < w4.heap.size := by have := hgrow.size; simp at this; omega
                  have HNE4 : Hid (Value.ownBlock (.slice y4 (p'.length + j + 1) cap4) ≠ some bx) := by
                    rcases hat with h | h
                    · unfold Hid; rw [h]; exact HNE.out
                    · unfold Hid; rw [h]; simp; omega
                  clear hown4 hgrow hat
                  go_wp2_with fail
                  go_roundw
                  case rel => exact ⟨j + 1, y4, cap4, by omega, by go_num, rfl, HO4.out, hbox4, HNE4, hs4, hb4⟩
                  case measure => simp [intOf]; omega
              · have hjl : j = kl.length := by omega
                subst hjl
                rw [List.take_of_length_le (Nat.le_refl _)] at hown3
                have hpl : p'.length + kl.length = (p' ++ kl).length := by simp
                rw [hpl] at hown3
                have HPL := hid hpl
                have HO3 := hid hown3
                clear hpl hown3
                go_wp2_with fail
                go_roundw
                case rel => exact ⟨nv + 1, tv, p' ++ kl, y3, cap3, by go_num, rfl, by rw [HPL.out], HO3.out, (fun b hb => by rcases List.mem_append.1 hb with h | h; exact HOK.out b h; exact fi_ok HFK.out b h), by have := HSl.out; unfold Hid; rw [sumN_app, sumM_app]; omega, hbel3⟩
                case measure => have := HSl.out; simp [intOf]; omega
end Go.Proofs.Qxb6605314a.IesModel

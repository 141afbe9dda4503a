import Derived.Test.Qxb6603999aFit
namespace Go.Proofs.Qxb6603999a.CopyN
open Go.RowKit Go.Proofs.Qxb6603999a.Common Go.Proofs.Qxb6603999a.Small Go.Proofs.Qxb6603999a.Fit

/-- What resolveCopyNodes and resolveToDag leave. -/
def MadeN (a : Nds) (w : World) (e : Ending) (w' : World) : Prop :=
  ∃ (x : Option Addr) (c : Nat) (y : Nat → Option Addr) (k : Nat → Nat), e = .returned (.slice x a.n c) ∧ Below w.heap.size w w' ∧ RdN w' w.heap.size x a.n a.id y a.m k a.s

/-- The first k nodes of the row B are done. -/
def Done (B : Nat) (a : Nds) (w : World) (xs : List Value) (k : Nat) (y : Nat → Option Addr) (kc : Nat → Nat) : Prop :=
  ∀ j, j < k → xs[j * 2]? = some (.string (a.id j)) ∧ xs[j * 2 + 1]? = some (.slice (y j) (a.m j) (kc j)) ∧ RdS w (B + 1) (y j) (a.m j) (a.s j)

theorem done_rd {B e n c : Nat} {a : Nds} {w : World} {xs : List Value} {y : Nat → Option Addr} {kc : Nat → Nat} (h : Done B a w xs n y kc) (hown : w.ownsRow B e 2 (.slice (some ⟨B, 0, none⟩) n c) n xs) : RdN w B (some ⟨B, 0, none⟩) n a.id y a.m kc a.s := by
  refine ⟨rd_of_owns hown fun j hj => ?_, fun j hj => (h j hj).2.2.carry (.of (Below.refl _ _)) (by omega)⟩
  unfold pair
  obtain ⟨h1, h2, _⟩ := h (j / 2) (by omega)
  split
  · rw [show j / 2 * 2 = j by omega] at h1; exact h1
  · rw [show j / 2 * 2 + 1 = j by omega] at h2; exact h2

/-- One node more. -/
theorem done_step {B n k : Nat} {a : Nds} {w w' : World} {xs : List Value} {y : Nat → Option Addr} {kc : Nat → Nat} {yk : Option Addr} {ck : Nat} (h : Done B a w xs k y kc) (hl : k * 2 + 1 < xs.length) (ha : Above (B + 1) w w') (hy : RdS w' (B + 1) yk (a.m k) (a.s k)) (_hn : k < n) :
    Done B a w' ((xs.set (k * 2) (.string (a.id k))).set (k * 2 + 1) (.slice yk (a.m k) ck)) (k + 1) (fun j => if j = k then yk else y j) (fun j => if j = k then ck else kc j) := by
  intro j hj
  by_cases e : j = k
  · subst e
    simp only [if_pos]
    refine ⟨?_, ?_, hy⟩
    · rw [List.getElem?_set_ne (by omega), List.getElem?_set_self (by omega)]
    · rw [List.getElem?_set_self (by simp; omega)]
  · simp only [if_neg e]
    obtain ⟨h1, h2, h3⟩ := h j (by omega)
    refine ⟨?_, ?_, h3.carry ha (Nat.le_refl _)⟩
    · rw [List.getElem?_set_ne (by omega), List.getElem?_set_ne (by omega)]; exact h1
    · rw [List.getElem?_set_ne (by omega), List.getElem?_set_ne (by omega)]; exact h2

/-- The two cells of element k of an owned row, in a later world. -/
theorem row_cells {w W w' : World} {B e n c k : Nat} {xs : List Value} (h : w.ownsRow B e 2 (.slice (some ⟨B, 0, none⟩) n c) n xs) (hb : Below W.heap.size W w') (hk : k < n) (hW : W.heap = w.heap := by rfl) :
    ∃ o0 o1, w'.cell? ⟨B, k * 2, none⟩ = some o0 ∧ w'.cell? ⟨B, k * 2 + 1, none⟩ = some o1 ∧ w'.frozen? ⟨B, k * 2, none⟩ = false ∧ w'.frozen? ⟨B, k * 2 + 1, none⟩ = false := by
  have h' : w'.ownsRow B e 2 (.slice (some ⟨B, 0, none⟩) n c) n xs := owns_same h fun g hg => by
    have := (h.lt g hg).2
    rw [hb.block g (by rw [hW]; exact this), hW]
  have hl := h.1
  exact ⟨xs[k * 2]'(by omega), xs[k * 2 + 1]'(by omega), by rw [h'.cellAt _ (by omega)]; simp, by rw [h'.cellAt _ (by omega)]; simp, h'.frozenAt _, h'.frozenAt _⟩

/-- What one round leaves. -/
theorem node_step {w0 wr W w2 : World} {B e k : Nat} {a : Nds} {xs : List Value} {y : Nat → Option Addr} {kc : Nat → Nat} {y2 : Option Addr} {c2 : Nat} (hown : wr.ownsRow B e 2 (.slice (some ⟨B, 0, none⟩) a.n a.n) a.n xs) (hd : Done B a wr xs k y kc) (hbel : Below B w0 wr) (hk : k < a.n)
    (hb2 : Below W.heap.size W w2) (hown2 : w2.ownsRow W.heap.size 9 1 (.slice y2 (a.m k) c2) (a.m k) (vals (a.m k) fun j => .string (a.s k j))) (hW : Below wr.heap.size wr W) (hW' : W.heap = wr.heap) :
    ((w2.setCell ⟨B, k * 2, none⟩ (.string (a.id k))).setCell ⟨B, k * 2 + 1, none⟩ (.slice y2 (a.m k) c2)).ownsRow B e 2 (.slice (some ⟨B, 0, none⟩) a.n a.n) a.n ((xs.set (k * 2) (.string (a.id k))).set (k * 2 + 1) (.slice y2 (a.m k) c2)) ∧
    Hid (Done B a ((w2.setCell ⟨B, k * 2, none⟩ (.string (a.id k))).setCell ⟨B, k * 2 + 1, none⟩ (.slice y2 (a.m k) c2)) ((xs.set (k * 2) (.string (a.id k))).set (k * 2 + 1) (.slice y2 (a.m k) c2)) (k + 1) (fun j => if j = k then y2 else y j) (fun j => if j = k then c2 else kc j)) ∧
    Below B w0 ((w2.setCell ⟨B, k * 2, none⟩ (.string (a.id k))).setCell ⟨B, k * 2 + 1, none⟩ (.slice y2 (a.m k) c2)) := by
  have hlt : B < wr.heap.size := (hown.lt B rfl).2
  have hbw : Below wr.heap.size wr w2 := hW.trans (hb2.mono (by rw [hW']; exact Nat.le_refl _))
  have h1 := owns_below hown hbw
  have hsz : W.heap.size = wr.heap.size := by rw [hW']
  refine ⟨((h1.stored _ _).1.stored _ _).1, ?_, ((hbel.trans (hbw.mono (by omega))).setCell (Nat.le_refl _) _).setCell (Nat.le_refl _) _⟩
  · have ha : Above (B + 1) wr ((w2.setCell ⟨B, k * 2, none⟩ (.string (a.id k))).setCell ⟨B, k * 2 + 1, none⟩ (.slice y2 (a.m k) c2)) :=
      ((Above.of hbw).setCell _ (by show B < B + 1; omega) _).setCell _ (by show B < B + 1; omega) _
    have ha2 : Above (B + 1) w2 ((w2.setCell ⟨B, k * 2, none⟩ (.string (a.id k))).setCell ⟨B, k * 2 + 1, none⟩ (.slice y2 (a.m k) c2)) :=
      ((Above.of (Below.refl _ w2)).setCell _ (by show B < B + 1; omega) _).setCell _ (by show B < B + 1; omega) _
    exact done_step (n := a.n) hd (by have := hown.1; omega) ha ((Copied.rd (owns_base hown2 (by omega))).carry ha2 (Nat.le_refl _)) hk

set_option maxRecDepth 100000 in
set_option maxHeartbeats 2000000 in
theorem f6_any (a : Nds) (B0 : Nat) (w : World) (ha : a.Reads w B0) (hf : a.Fits) :
    Calls Try.prog 6 #[.slice a.x a.n a.c] w fun e w' => MadeN a w e w' := by
  obtain ⟨i0, hinf, hz0, hz1, hz2⟩ := info_parts info42
  have q := eqnil 22 42 Try.underlying22
  have hn := hf.1
  have HFm := hid hf.2
  have HA := hid ha
  clear hf
  cases hx : a.x with
  | none =>
    have h0 : a.n = 0 := by have := ha.1; rw [hx] at this; exact this.nil
    clear ha
    rw [h0]
    go_enter Try.func6, Try.ntmps6
    go_wp2_with fail
    go_ret
    refine ⟨none, 0, a.y, a.k, by rw [h0]; rfl, Below.refl _ _, ?_⟩
    rw [h0]
    exact ⟨fun h => by omega, fun j hj => by omega⟩
  | some ad =>
    have HXX := hid hx
    clear ha hx
    go_enter Try.func6, Try.ntmps6
    go_wp2_with (refine wpList_make_full _ rfl (.tmp 8) (.tmp 8) 22 rfl w.heap.size 42 i0 (.agg #[.string ByteArray.empty, .slice none 0 0]) 2 Try.underlying22 hinf hz0 hz1 .i64 .i64 _ _ a.n rfl rfl rfl rfl (by rw [hz2]; omega) (by unfold maxLen; omega) (Nat.le_refl _) ?_; intro w1 hown hgr)
    go_loopw [4] (fun i wr => ∃ (k : Nat) (xs : List Value) (y : Nat → Option Addr) (kc : Nat → Nat), k ≤ a.n ∧ i = .int .i64 k ∧ wr.ownsRow w.heap.size 42 2 (.slice (some ⟨w.heap.size, 0, none⟩) a.n a.n) a.n xs ∧ Hid (Done w.heap.size a wr xs k y kc) ∧ Below w.heap.size w wr) (fun i _ => a.n - (intOf i).toNat)
    case atStart => exact ⟨0, _, a.y, a.k, Nat.zero_le _, rfl, hown, (fun j hj => absurd hj (by omega)), (Below.refl _ _).grown hgr (Nat.le_refl _) (by simp)⟩
    case round =>
      obtain ⟨k, xs, y, kc, hk, rfl, hownr, HD, hbel⟩ := hrel
      clear hown hgr
      by_cases hlt : k < a.n
      · obtain ⟨b, off, hx, hb, hc0, hc1, hs⟩ := (HA.out.below hbel).at hlt
        rw [HXX.out] at hx
        simp only [Option.some.injEq] at hx
        subst hx
        have hik : (k : Int) < a.n := by omega
        have hm4 := HFm.out k hlt
        have hltB : w.heap.size < wr.heap.size := (hownr.lt w.heap.size rfl).2
        have HSS := hid hs
        have HO := hid hownr
        have HB := hid hbel
        clear hownr hbel hs
        go_wp2_with fail
        go_region_with (go_at_call 17; refine (f17_any (a.y k) (a.m k) (a.k k) B0 (a.s k) _ (by exact HSS.out) (by omega)).mono ?_; rintro e w2 ⟨y2, c2, rfl, hnil2, hb2, hown2⟩; obtain ⟨o0, o1, hd0, hd1, hf0, hf1⟩ := row_cells HO.out hb2 hlt; have hcx0 : w2.cell? ⟨b, off + k * 2, none⟩ = some (.string (a.id k)) := (hb2.cell (p := ⟨b, off + k * 2, none⟩) hb).trans hc0; have hcx1 : w2.cell? ⟨b, off + k * 2 + 1, none⟩ = some (.slice (a.y k) (a.m k) (a.k k)) := (hb2.cell (p := ⟨b, off + k * 2 + 1, none⟩) hb).trans hc1; have HB2 := hid hb2; have HO2 := hid hown2; clear hb2 hown2 hnil2)
        all_goals
          go_wp2_with fail
          go_roundw
          case rel =>
            have R := node_step HO.out HD.out HB.out hlt HB2.out HO2.out (by first | exact Below.refl _ _ | exact (Below.refl _ _).drew) rfl
            exact ⟨k + 1, _, _, _, by omega, by go_num, R.1, R.2.1, R.2.2⟩
          case measure => simp [intOf]; omega
      · have hkn : k = a.n := by omega
        subst hkn
        go_wp2_with fail
        go_ret
        exact ⟨_, _, y, kc, rfl, hbel, done_rd HD.out hownr⟩

set_option maxRecDepth 100000 in
set_option maxHeartbeats 2000000 in
theorem f9_any (a : Nds) (B0 : Nat) (w : World) (ha : a.Reads w B0) (hf : a.Fits) :
    Calls Try.prog 9 #[.slice a.x a.n a.c] w fun e w' => MadeN a w e w' := by
  obtain ⟨i0, hinf, hz0, hz1, hz2⟩ := info_parts info58
  have hn := hf.1
  have HFm := hid hf.2
  have HA := hid ha
  clear hf
  clear ha
  go_enter Try.func9, Try.ntmps9
  go_wp2_with (refine wpList_make_full _ rfl (.tmp 6) (.tmp 6) 37 rfl w.heap.size 58 i0 (.agg #[.string ByteArray.empty, .slice none 0 0]) 2 Try.underlying37 hinf hz0 hz1 .i64 .i64 _ _ a.n rfl rfl rfl rfl (by rw [hz2]; omega) (by unfold maxLen; omega) (Nat.le_refl _) ?_; intro w1 hown hgr)
  go_loopw [4] (fun i wr => ∃ (k : Nat) (xs : List Value) (y : Nat → Option Addr) (kc : Nat → Nat), k ≤ a.n ∧ i = .int .i64 k ∧ wr.ownsRow w.heap.size 58 2 (.slice (some ⟨w.heap.size, 0, none⟩) a.n a.n) a.n xs ∧ Hid (Done w.heap.size a wr xs k y kc) ∧ Below w.heap.size w wr) (fun i _ => a.n - (intOf i).toNat)
  case atStart => exact ⟨0, _, a.y, a.k, Nat.zero_le _, rfl, hown, (fun j hj => absurd hj (by omega)), (Below.refl _ _).grown hgr (Nat.le_refl _) (by simp)⟩
  case round =>
    obtain ⟨k, xs, y, kc, hk, rfl, hownr, HD, hbel⟩ := hrel
    clear hown hgr
    by_cases hlt : k < a.n
    · obtain ⟨b, off, hx, hb, hc0, hc1, hs⟩ := (HA.out.below hbel).at hlt
      rw [hx]
      have hik : (k : Int) < a.n := by omega
      have hm4 := HFm.out k hlt
      have hltB : w.heap.size < wr.heap.size := (hownr.lt w.heap.size rfl).2
      have HSS := hid hs
      have HO := hid hownr
      have HB := hid hbel
      clear hownr hbel hs
      go_wp2_with fail
      go_region_with (go_at_call 17; refine (f17_any (a.y k) (a.m k) (a.k k) B0 (a.s k) _ (by exact HSS.out) (by omega)).mono ?_; rintro e w2 ⟨y2, c2, rfl, hnil2, hb2, hown2⟩; obtain ⟨o0, o1, hd0, hd1, hf0, hf1⟩ := row_cells HO.out hb2 hlt; have hcx0 : w2.cell? ⟨b, off + k * 2, none⟩ = some (.string (a.id k)) := (hb2.cell (p := ⟨b, off + k * 2, none⟩) hb).trans hc0; have hcx1 : w2.cell? ⟨b, off + k * 2 + 1, none⟩ = some (.slice (a.y k) (a.m k) (a.k k)) := (hb2.cell (p := ⟨b, off + k * 2 + 1, none⟩) hb).trans hc1; have HB2 := hid hb2; have HO2 := hid hown2; clear hb2 hown2 hnil2)
      all_goals
        go_wp2_with fail
        go_roundw
        case rel =>
          have R := node_step HO.out HD.out HB.out hlt HB2.out HO2.out (by first | exact Below.refl _ _ | exact (Below.refl _ _).drew) rfl
          exact ⟨k + 1, _, _, _, by omega, by go_num, R.1, R.2.1, R.2.2⟩
        case measure => simp [intOf]; omega
    · have hkn : k = a.n := by omega
      subst hkn
      go_wp2_with fail
      go_ret
      exact ⟨_, _, y, kc, rfl, hbel, done_rd HD.out hownr⟩
end Go.Proofs.Qxb6603999a.CopyN

import Derived.Test.Qxb6605314aIesClone
namespace Go.Proofs.Qxb6605314a.IesTo
open Go.RowKit Go.Proofs.Qxb6605314a.IesTree Go.Proofs.Qxb6605314a.IesClone

theorem info40 : (Try.prog.info? 40).map (fun i => (i.zero, i.size, i.bytes)) = some (some (.agg #[.int .u8 0, .int .u8 0, .slice none 0 0, .slice none 0 0]), 4, 56) := by kernel_rfl

theorem hid {p : Prop} (h : p) : Hid p := h

theorem owns_below {w w' : World} {B e s g n c : Nat} {xs : List Value} (h : w.ownsRow B e s (.slice (some ⟨g, 0, none⟩) n c) n xs) (hb : Below w.heap.size w w') : w'.ownsRow B e s (.slice (some ⟨g, 0, none⟩) n c) n xs := by
  have hg := (h.lt g rfl).2
  rcases h with ⟨h0, h1 | ⟨g', cap, cur, hv, r1, r2, r3⟩⟩
  · exact ⟨h0, .inl h1⟩
  · simp only [Value.slice.injEq, Option.some.injEq, Addr.mk.injEq, and_true, true_and] at hv
    obtain ⟨rfl, rfl⟩ := hv
    exact ⟨h0, .inr ⟨g, c, cur, rfl, r1, by rw [hb.block g hg]; exact r2, r3⟩⟩

/-- What zzToIEs leaves. -/
def Made (d : Nat) (x : Option Addr) (l : List Nod) (w : World) (e : Ending) (w' : World) : Prop :=
  ∃ y c l', e = .returned (.slice y l.length c) ∧ l'.length = l.length ∧ sumN l' = sumN l ∧ sumM l' = sumM l ∧ sumV l' = sumV l ∧ (x = none ↔ y = none) ∧ Fo w.heap.size d w' y l' ∧ Below w.heap.size w w'

/-- The children of a node, grouped or not. -/
theorem NodOk.kids {P : Option Addr → Nat → Prop} {d : Nat} {w : World} {a : Nod} (h : NodOk P (Fi d w) a) :
    ∃ kl, Fi d w a.kx kl ∧ kl.length = a.kn ∧ (a.kx = none → a.kn = 0 ∧ a.N = 1 ∧ a.M = a.vn ∧ a.V = a.vn) ∧ (a.kx ≠ none → a.N = sumN kl + 1 ∧ a.M = sumM kl ∧ a.V = a.vn + sumV kl) ∧ sumN kl ≤ a.N ∧ sumV kl + a.vn ≤ a.V := by
  rcases h.2 with ⟨h1, h2, h3, h4, h5⟩ | ⟨k, l, h1, h2, h3, h4, h5, h6⟩
  · exact ⟨[], Fr.mk_nil, by simp [h2], fun _ => ⟨h2, h3, h4, h5⟩, fun h => absurd h1 h, by simp [sumN], by simp [sumV]; omega⟩
  · exact ⟨l, by rw [h1]; exact h2, h3, (fun h => by rw [h1] at h; cases h), fun _ => ⟨h4, h5, h6⟩, by omega, by omega⟩

/-- The first o.length elements of the row B are done. -/
def Done (B d : Nat) (w : World) (xs : List Value) (o : List Nod) : Prop :=
  ∀ (j : Nat) (a : Nod), o[j]? = some a → xs[j * 4]? = some (.int .u8 a.t) ∧ xs[j * 4 + 1]? = some (.int .u8 a.i) ∧ xs[j * 4 + 2]? = some (.slice a.vx a.vn a.vc) ∧ xs[j * 4 + 3]? = some (.slice a.kx a.kn a.kc) ∧ NodOk (fun _ _ => True) (Fo (B + 1) d w) a
def Sums (o l : List Nod) : Prop := sumN o = sumN l ∧ sumM o = sumM l ∧ sumV o = sumV l

theorem Done.fr {B d n c : Nat} {w : World} {xs : List Value} {o : List Nod} (h : Done B (d - 1) w xs o) (hown : w.ownsRow B 40 4 (.slice (some ⟨B, 0, none⟩) n c) n xs) (hn : o.length = n) (hd : d = 0 → o = []) : Fo B d w (some ⟨B, 0, none⟩) o := by
  cases d with
  | zero => exact hd rfl
  | succ d =>
    intro _
    refine ⟨B, 0, rfl, (hown.lt B rfl).2, Nat.le_refl _, fun j a ha => ?_⟩
    obtain ⟨h1, h2, h3, h4, h5⟩ := h j a ha
    have hj : j < n := by
      rcases Nat.lt_or_ge j n with h | h
      · exact h
      · rw [List.getElem?_eq_none (by omega)] at ha; cases ha
    refine ⟨⟨?_, ?_, ?_, ?_⟩, h5.imp (fun _ _ h => h) (fun x l h => Fr.carry (Nat.le_refl _) (fun b _ hb => ⟨rfl, by omega⟩) (fun _ _ h => h) d x l h)⟩
    · rw [Nat.zero_add, hown.cellAt _ (by omega)]; exact h1
    · rw [Nat.zero_add, hown.cellAt _ (by omega)]; exact h2
    · rw [Nat.zero_add, hown.cellAt _ (by omega)]; exact h3
    · rw [Nat.zero_add, hown.cellAt _ (by omega)]; exact h4

theorem sums_snoc {o l : List Nod} {k : Nat} {a a' : Nod} (h : Sums o (l.take k)) (ha : l[k]? = some a) (e1 : a'.N = a.N) (e2 : a'.M = a.M) (e3 : a'.V = a.V) : Sums (o ++ [a']) (l.take (k + 1)) := by
  unfold Sums
  rw [sumN_take ha, sumM_take ha, sumV_take ha, sumN_app, sumM_app, sumV_app, h.1, h.2.1, h.2.2]
  simp [sumN, sumM, sumV, e1, e2, e3]

theorem done_step {B d k : Nat} {wr w6 : World} {xs : List Value} {o kl l9 : List Nod} {a : Nod} {y y9 : Option Addr} {dv c9 : Nat} (h : Done B d wr xs o) (hok : o.length = k) (hlen : k * 4 + 3 < xs.length)
    (hs : wr.heap.size ≤ w6.heap.size) (hsame : ∀ b, B + 1 ≤ b → b < wr.heap.size → w6.heap[b]? = wr.heap[b]?) (hF : Fo (B + 1) d w6 y9 l9)
    (g2 : kl.length = a.kn) (g3 : a.kx = none → a.kn = 0 ∧ a.N = 1 ∧ a.M = a.vn ∧ a.V = a.vn) (g4 : a.kx ≠ none → a.N = sumN kl + 1 ∧ a.M = sumM kl ∧ a.V = a.vn + sumV kl)
    (r1 : l9.length = kl.length) (r2 : sumN l9 = sumN kl) (r3 : sumM l9 = sumM kl) (r4 : sumV l9 = sumV kl) (r5 : a.kx = none ↔ y9 = none) :
    Done B d w6 ((((xs.set (k * 4) (.int .u8 a.t)).set (k * 4 + 1) (.int .u8 a.i)).set (k * 4 + 2) (.slice y a.vn dv)).set (k * 4 + 3) (.slice y9 a.kn c9)) (o ++ [{ a with vx := y, vc := dv, kx := y9, kc := c9 }]) := by
  intro j b hb
  by_cases hj : j < k
  · rw [List.getElem?_append_left (by omega)] at hb
    obtain ⟨h1, h2, h3, h4, h5⟩ := h j b hb
    refine ⟨?_, ?_, ?_, ?_, h5.imp (fun _ _ h => h) (fun x l h => Fr.carry hs (fun b hb hB => ⟨hsame b hB hb, hB⟩) (fun _ _ h => h) d x l h)⟩
    · rw [List.getElem?_set_ne (by omega), List.getElem?_set_ne (by omega), List.getElem?_set_ne (by omega), List.getElem?_set_ne (by omega)]; exact h1
    · rw [List.getElem?_set_ne (by omega), List.getElem?_set_ne (by omega), List.getElem?_set_ne (by omega), List.getElem?_set_ne (by omega)]; exact h2
    · rw [List.getElem?_set_ne (by omega), List.getElem?_set_ne (by omega), List.getElem?_set_ne (by omega), List.getElem?_set_ne (by omega)]; exact h3
    · rw [List.getElem?_set_ne (by omega), List.getElem?_set_ne (by omega), List.getElem?_set_ne (by omega), List.getElem?_set_ne (by omega)]; exact h4
  · have hjk : j = k := by
      rcases Nat.lt_or_ge k j with h | h
      · rw [List.getElem?_eq_none (by simp; omega)] at hb; cases hb
      · omega
    subst hjk
    rw [List.getElem?_append_right (by omega), hok] at hb
    simp only [Nat.sub_self, List.getElem?_cons_zero, Option.some.injEq] at hb
    subst hb
    refine ⟨?_, ?_, ?_, ?_, trivial, ?_⟩
    · rw [List.getElem?_set_ne (by omega), List.getElem?_set_ne (by omega), List.getElem?_set_ne (by omega), List.getElem?_set_self (by omega)]
    · rw [List.getElem?_set_ne (by omega), List.getElem?_set_ne (by omega), List.getElem?_set_self (by simp; omega)]
    · rw [List.getElem?_set_ne (by omega), List.getElem?_set_self (by simp; omega)]
    · rw [List.getElem?_set_self (by simp; omega)]
    · by_cases hk : a.kx = none
      · exact .inl ⟨r5.1 hk, (g3 hk).1, (g3 hk).2.1, (g3 hk).2.2.1, (g3 hk).2.2.2⟩
      · obtain ⟨kk, hkk⟩ : ∃ kk, y9 = some kk := by
          cases hy : y9 with
          | none => exact absurd (r5.2 hy) hk
          | some kk => exact ⟨kk, rfl⟩
        obtain ⟨e1, e2, e3⟩ := g4 hk
        refine .inr ⟨kk, l9, hkk, by rw [← hkk]; exact hF, by rw [r1, g2], ?_, ?_, ?_⟩
        · show a.N = _; omega
        · show a.M = _; omega
        · show a.V = a.vn + _; omega

set_option maxHeartbeats 2000000 in
theorem f9_any (d : Nat) : ∀ (x : Option Addr) (l : List Nod) (c : Nat) (w : World), Fi d w x l → sumN l ≤ 1048576 → sumV l ≤ 1048576 →
    Calls Try.prog 9 #[.slice x l.length c] w fun e w' => Made d x l w e w' := by
  induction d using Nat.strongRecOn with
  | ind d ih =>
    intro x l c w hf h0 h1
    obtain ⟨i0, hi, hz0, hz1, hz2⟩ := info_parts info40
    have q : ∀ (w : World) (a : Option Addr) (n c n' c' : Nat), (binOp .eql 22 (.slice a n c) (.slice none n' c')).run Try.prog w = .ok (.bool a.isNone) w := fun w a n c n' c' => Lib.run_eql_slice_nil w _ _ a n c n' c' Try.underlying22
    have hlen := hf.len
    rcases x with _ | ad
    · obtain rfl := hf.nil
      go_enter Try.func9, Try.ntmps9
      go_wp2_with fail
      go_ret
      exact ⟨none, 0, [], rfl, rfl, rfl, rfl, rfl, by simp, Fr.mk_nil, Below.refl _ _⟩
    · have HF : Hid (Fi d w (some ad) l) := hf
      have IH := hid (ih)
      clear hf ih
      go_enter Try.func9, Try.ntmps9
      go_wp2_with (refine wpList_make_full _ rfl (.tmp 8) (.tmp 8) 24 rfl w.heap.size 40 i0 (.agg #[.int .u8 0, .int .u8 0, .slice none 0 0, .slice none 0 0]) 4 Try.underlying24 hi hz0 hz1 .i64 .i64 _ _ l.length rfl rfl rfl rfl (by rw [hz2]; omega) (by unfold maxLen; omega) (Nat.le_refl _) ?_; intro w1 hown hgr)
      go_loopw [4] (fun i wr => ∃ (k : Nat) (xs : List Value) (o : List Nod), k ≤ l.length ∧ i = .int .i64 k ∧ o.length = k ∧ wr.ownsRow w.heap.size 40 4 (.slice (some ⟨w.heap.size, 0, none⟩) l.length l.length) l.length xs ∧ Hid (Done w.heap.size (d - 1) wr xs o ∧ Sums o (l.take k)) ∧ Below w.heap.size w wr) (fun i _ => l.length - (intOf i).toNat)
      case atStart => exact ⟨0, _, [], Nat.zero_le _, rfl, rfl, hown, ⟨fun j a h => by simp at h, rfl, rfl, rfl⟩, (Below.refl _ _).grown hgr (Nat.le_refl _) (by simp)⟩
      case round =>
        obtain ⟨k, xs, o, hk, rfl, hok, hownr, HD, hbel⟩ := hrel
        clear hown hgr
        by_cases hlt : k < l.length
        · obtain ⟨a, ha⟩ : ∃ a, l[k]? = some a := ⟨l[k], by simp⟩
          have HA := hid (ha)
          have hnN := sumN_le l (k + 1)
          have hnV := sumV_le l (k + 1)
          rw [sumN_take ha] at hnN
          rw [sumV_take ha] at hnV
          obtain ⟨d', rfl⟩ : ∃ d', d = d' + 1 := by
            cases d with
            | zero => have h : l = [] := HF.out
                      subst h; simp at hlt
            | succ d' => exact ⟨d', rfl⟩
          obtain ⟨b, off, hx, hb, -, hj⟩ := HF.out (by intro h; subst h; simp at hlt)
          simp only [Option.some.injEq] at hx
          subst hx
          obtain ⟨hat, hg⟩ := hj k a ha
          obtain ⟨kl, g1, g2, g3, g4, g5, g6⟩ := NodOk.kids hg
          have hgo := hg.1
          obtain ⟨c0, c1, c2, c3⟩ := hat.same (w' := wr) (hbel.block b hb)
          have hsz := hbel.size
          have hne : b ≠ w.heap.size := by omega
          obtain ⟨o0, hd0⟩ : ∃ o0, wr.cell? ⟨w.heap.size, k * 4, none⟩ = some o0 := ⟨xs[k * 4]'(by have := hownr.1; omega), by rw [hownr.cellAt (k * 4) (by omega)]; simp⟩
          obtain ⟨o1, hd1⟩ : ∃ o1, wr.cell? ⟨w.heap.size, k * 4 + 1, none⟩ = some o1 := ⟨xs[k * 4 + 1]'(by have := hownr.1; omega), by rw [hownr.cellAt (k * 4 + 1) (by omega)]; simp⟩
          have hf0 : wr.frozen? ⟨w.heap.size, k * 4, none⟩ = false := hownr.frozenAt _
          have hf1 : wr.frozen? ⟨w.heap.size, k * 4 + 1, none⟩ = false := hownr.frozenAt _
          have HO := hid (hownr)
          have HAT := hid (hat)
          have HGO : Hid (Oct w a.vx a.vn) := hgo
          have HKK := hid (And.intro g3 g4)
          have HK : Hid (∀ w1, Below w.heap.size w w1 → Calls Try.prog 9 #[.slice a.kx a.kn a.kc] w1 fun e w' => Made d' a.kx kl w1 e w') := by
            intro w1 hb1
            have := IH.out d' (by omega) a.kx kl a.kc w1 (Fi.below g1 hb1) (by omega) (by omega)
            rw [g2] at this; exact this
          have HBL := hid (hbel)
          clear hj hat hg hgo g1 g3 g4 ha hownr
          have hb2 : Below w.heap.size w ((wr.setCell ⟨w.heap.size, k * 4, none⟩ (.int .u8 a.t)).setCell ⟨w.heap.size, k * 4 + 1, none⟩ (.int .u8 a.i)) := (hbel.setCell (Nat.le_refl _) _).setCell (Nat.le_refl _) _
          have HB2 := hid (hb2)
          have HO2 := hid (((HO.out.stored (k * 4) (.int .u8 a.t)).1.stored (k * 4 + 1) (.int .u8 a.i)).1)
          clear hb2 hbel
          go_wp2_with fail
          refine (f17_any a.vx a.vn a.vc _ (HGO.out.below HB2.out) (by omega)).mono ?_
          rintro e w3 ⟨y, dv, rfl, hb3⟩
          have own3 := owns_below HO2.out hb3
          have hbA := HB2.out.trans (hb3.mono HB2.out.size)
          obtain ⟨-, -, -, c3'⟩ := HAT.out.same (w' := w3) (hbA.block b hb)
          obtain ⟨o2, hd2⟩ : ∃ o2, w3.cell? ⟨w.heap.size, k * 4 + 2, none⟩ = some o2 := ⟨((xs.set (k * 4) (.int .u8 a.t)).set (k * 4 + 1) (.int .u8 a.i))[k * 4 + 2]'(by have := own3.1; omega), by rw [own3.cellAt (k * 4 + 2) (by omega)]; simp⟩
          have hf2 : w3.frozen? ⟨w.heap.size, k * 4 + 2, none⟩ = false := own3.frozenAt _
          have HB4 := hid (hbA.setCell (p := ⟨w.heap.size, k * 4 + 2, none⟩) (Nat.le_refl _) (.slice y a.vn dv))
          have HO4 := hid ((own3.stored (k * 4 + 2) (.slice y a.vn dv)).1)
          have HB3 := hid (hb3)
          clear own3 hbA hb3
          go_wp2_with fail
          refine (HK.out _ HB4.out).mono ?_
          rintro e w5 ⟨y9, c9, l9, rfl, r1, r2, r3, r4, r5, hfo, hb5⟩
          rw [g2]
          have own5 := owns_below HO4.out hb5
          have hbC := HB4.out.trans (hb5.mono HB4.out.size)
          obtain ⟨o3, hd3⟩ : ∃ o3, w5.cell? ⟨w.heap.size, k * 4 + 3, none⟩ = some o3 := ⟨(((xs.set (k * 4) (.int .u8 a.t)).set (k * 4 + 1) (.int .u8 a.i)).set (k * 4 + 2) (.slice y a.vn dv))[k * 4 + 3]'(by have := own5.1; omega), by rw [own5.cellAt (k * 4 + 3) (by omega)]; simp⟩
          have hf3 : w5.frozen? ⟨w.heap.size, k * 4 + 3, none⟩ = false := own5.frozenAt _
          have HB6 := hid (hbC.setCell (p := ⟨w.heap.size, k * 4 + 3, none⟩) (Nat.le_refl _) (.slice y9 a.kn c9))
          have HO6 := hid ((own5.stored (k * 4 + 3) (.slice y9 a.kn c9)).1)
          have HR := hid (And.intro r1 (And.intro r2 (And.intro r3 (And.intro r4 r5))))
          have HFO := hid (hfo)
          have HB5 := hid (hb5)
          clear own5 hbC hb5 r1 r2 r3 r4 r5 hfo
          go_wp2_with fail
          go_roundw
          case rel =>
            refine ⟨k + 1, _, o ++ [{ a with vx := y, vc := dv, kx := y9, kc := c9 }], by omega, by go_num, by simp [hok], HO6.out, ?_, HB6.out⟩
            obtain ⟨r1, r2, r3, r4, r5⟩ := HR.out
            have s3 := HB3.out.size
            have s5 := HB5.out.size
            simp only [World.size_setCell] at s3 s5
            have hltB : w.heap.size < wr.heap.size := (HO.out.lt _ rfl).2
            refine ⟨done_step HD.out.1 hok (by have := HO.out.1; omega) ?_ ?_ ?_ g2 HKK.out.1 HKK.out.2 r1 r2 r3 r4 r5, sums_snoc HD.out.2 HA.out rfl rfl rfl⟩
            · simp only [World.size_setCell]; omega
            · intro b' hB hb'
              rw [Below.heap_setCell _ _ _ _ (by show b' ≠ w.heap.size; omega), HB5.out.block b' (by simp only [World.size_setCell]; omega), Below.heap_setCell _ _ _ _ (by show b' ≠ w.heap.size; omega), HB3.out.block b' (by simp only [World.size_setCell]; omega), Below.heap_setCell _ _ _ _ (by show b' ≠ w.heap.size; omega), Below.heap_setCell _ _ _ _ (by show b' ≠ w.heap.size; omega)]
            · refine Fr.carry (P := fun _ _ _ => True) (P' := fun _ _ _ => True) (w := w5) (w' := w5.setCell ⟨w.heap.size, k * 4 + 3, none⟩ (.slice y9 a.kn c9)) (ok' := fun b => w.heap.size + 1 ≤ b) (ok := fun b => (w3.setCell ⟨w.heap.size, k * 4 + 2, none⟩ (.slice y a.vn dv)).heap.size ≤ b) ?_ (fun b' hb' hB => ⟨?_, ?_⟩) (fun _ _ h => h) d' y9 l9 HFO.out
              · simp
              · simp only [World.size_setCell] at hB
                exact Below.heap_setCell _ _ _ _ (by show b' ≠ w.heap.size; omega)
              · simp only [World.size_setCell] at hB; omega
          case measure => simp [intOf]; omega
        · go_wp2_with fail
          go_ret
          have hkl : k = l.length := by omega
          subst hkl
          rw [List.take_of_length_le (Nat.le_refl _)] at HD
          exact ⟨_, _, o, rfl, hok, HD.out.2.1, HD.out.2.2.1, HD.out.2.2.2, by simp, HD.out.1.fr hownr hok (fun hd => by subst hd; have h : l = [] := HF.out; subst h; simpa using hok), hbel⟩
end Go.Proofs.Qxb6605314a.IesTo

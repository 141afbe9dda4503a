import Derived.Test.Qxb6603999aFin
import Derived.Test.Qxb6603999aSame
namespace Go.Proofs.Qxb6603999a.Law
open Go.RowKit Go.Proofs.Qxb6603999a.SameQ Go.Proofs.Qxb6603999a.Same Go.Proofs.Qxb6603999a.Common Go.Proofs.Qxb6603999a.Model Go.Proofs.Qxb6603999a.Target Go.Proofs.Qxb6603999a.Fit Go.Proofs.Qxb6603999a.IdxFits Go.Proofs.Qxb6603999a.Deps Go.Proofs.Qxb6603999a.Miss Go.Proofs.Qxb6603999a.CopyP Go.Proofs.Qxb6603999a.CopyN Go.Proofs.Qxb6603999a.Res Go.Proofs.Qxb6603999a.Got Go.Proofs.Qxb6603999a.Sum Go.Proofs.Qxb6603999a.DepsO Go.Proofs.Qxb6603999a.Aft

theorem copy_below {p : Prob} {gq : Nat} {v : QV} {w w' : World} (h : Copy p gq v w) (hb : Below w.heap.size w w') : Copy p gq v w' :=
  { q := h.q.below hb, nD := h.nD, nM := h.nM, nS := h.nS, nC := h.nC, oD := owns_below h.oD hb, uD := h.uD, oM := owns_below h.oM hb, uM := h.uM, oS := owns_below h.oS hb, uS := h.uS, rC := h.rC.below hb, nY := h.nY, l1 := h.l1, l2 := h.l2, l3 := h.l3, l4 := Nat.le_trans h.l4 hb.size }

set_option maxRecDepth 100000 in
set_option maxHeartbeats 8000000 in
theorem f3_any (a : Nds) (p : Prob) (mv : Value) (ok : ByteArray → Bool) (val : ByteArray → Int) (z : Int) (w : World) (ha : a.Reads w 0) (hp : p.Reads w 0) (hi : Idx w mv ok val) (hs : ∀ i j, (a.s i j).size ≤ maxLen)
    (hz : ∀ w', Below w.heap.size w w' → ∀ ty, (Builtin.len_ #[23] ty #[mv]).run Try.prog w' = .ok (.int .i64 z) w') :
    Calls Try.prog 3 #[.slice a.x a.n a.c, mv, .agg #[.slice p.xD p.nD p.cD, .slice p.xM p.nM p.cM, .slice p.xS p.nS p.cS, .slice p.xC p.nC p.cC]] w fun e w' => e = .returned (.bool true) ∧ Below w.heap.size w w' := by
  obtain ⟨i39, hinf39, hz390, hz391, hz392⟩ := info_parts info39
  obtain ⟨i46, hinf46, hz460, hz461, hz462⟩ := info_parts info46
  obtain ⟨i9, hinf9, hz90, hz91, hz92⟩ := info_parts info9
  have HSZ := hid hs
  have HZ := hid hz
  clear hs hz
  have hbx : Below w.heap.size w (w.alloc (.cells #[.slice p.xD p.nD p.cD, .slice p.xM p.nM p.cM, .slice p.xS p.nS p.cS, .slice p.xC p.nC p.cC] 28)) := (Below.refl _ _).alloc (Nat.le_refl _) _
  have HBX : Hid (Box (w.alloc (.cells #[.slice p.xD p.nD p.cD, .slice p.xM p.nM p.cM, .slice p.xS p.nS p.cS, .slice p.xC p.nC p.cC] 28)) w.heap.size p) := ⟨by simp, by simp, by simp, by simp, by simp⟩
  have HA := hid (ha.below hbx)
  have HP := hid (hp.below hbx)
  have HI := hid (hi.below hbx)
  have HB := hid hbx
  clear hbx ha hp hi
  obtain ⟨W, hW⟩ : ∃ W, w.alloc (.cells #[.slice p.xD p.nD p.cD, .slice p.xM p.nM p.cM, .slice p.xS p.nS p.cS, .slice p.xC p.nC p.cC] 28) = W := ⟨_, rfl⟩
  rw [hW] at HBX HA HB HP HI
  obtain ⟨hPl, e0, e1, e2, e3⟩ := HBX.out
  go_enter Try.func3, Try.ntmps3
  go_wp2_with fail
  refine (f4_any a p 0 _ HA.out HP.out).mono ?_
  rintro e W1 ⟨b1, rfl, hb1, hfit⟩
  clear e0 e1 e2 e3 hW
  have HB1 := hid (HB.out.trans (hb1.mono HB.out.size))
  cases b1
  · clear hfit hb1
    go_wp2_with fail
    go_ret
    exact ⟨rfl, HB1.out⟩
  obtain ⟨hfa, hfp⟩ := hfit rfl
  have HFA := hid hfa
  have HFP := hid hfp
  have HBX1 := hid (HBX.out.below hb1)
  have HA1 := hid (HA.out.below hb1)
  have HP1 := hid (HP.out.below hb1)
  have HI1 := hid (HI.out.below hb1)
  have hz1 := HZ.out W1 HB1.out
  clear hfit hfa hfp hb1 HBX HA HP HI HB
  by_cases hzz : 65536 < z
  · go_wp2_with fail
    go_ret
    exact ⟨rfl, HB1.out⟩
  go_wp2_with fail
  clear hz1 HZ hzz
  refine (f5_any a 0 mv ok val _ HA1.out HFA.out HI1.out HSZ.out).mono ?_
  rintro e W2 ⟨b2, rfl, hb2, hin⟩
  have HB2 := hid (HB1.out.trans (hb2.mono HB1.out.size))
  cases b2
  · clear hin hb2
    go_wp2_with fail
    go_ret
    exact ⟨rfl, HB2.out⟩
  have HIN := hid (hin rfl)
  have HBX2 := hid (HBX1.out.below hb2)
  have HA2 := hid (HA1.out.below hb2)
  have HP2 := hid (HP1.out.below hb2)
  have HI2 := hid (HI1.out.below hb2)
  clear hin hb2 HBX1 HA1 HP1 HI1 HB1
  go_wp2_with fail
  refine (f6_any a 0 _ HA2.out HFA.out).mono ?_
  rintro e W3 ⟨x3, c3, y3, k3, rfl, hb3, hN3⟩
  have HB3 := hid (HB2.out.trans (hb3.mono HB2.out.size))
  have HBX3 := hid (HBX2.out.below hb3)
  have HP3 := hid (HP2.out.below hb3)
  have HI3 := hid (HI2.out.below hb3)
  have HN3 : Hid ((like a x3 c3 y3 k3).Reads W3 W2.heap.size) := hN3
  clear hb3 hN3 HBX2 HA2 HP2 HI2 HB2
  obtain ⟨hPl3, e0, e1, e2, e3⟩ := HBX3.out
  go_wp2_with fail
  clear e0 e1 e2 e3
  refine (f7_any p 0 _ HP3.out HFP.out).mono ?_
  rintro e W4 ⟨q, rfl, hb4, hq4⟩
  have HB4 := hid hb4
  have HQ4 := hid hq4
  have HN4 := hid (HN3.out.below hb4)
  clear hb4 hq4
  go_wp2_with fail
  refine (f9_any (like a x3 c3 y3 k3) W2.heap.size _ HN4.out HFA.out).mono ?_
  rintro e W5 ⟨x5, c5, y5, k5, rfl, hb5, hN5⟩
  have HB5 := hid (HB4.out.trans (hb5.mono HB4.out.size))
  have HN5 : Hid ((like a x5 c5 y5 k5).Reads W5 W4.heap.size) := hN5
  have HQ5 := hid (copy_below HQ4.out hb5)
  clear hb5 hN5
  go_wp2_with fail
  refine (f8_any (like a x5 c5 y5 k5) p q (W3.heap.size + 1) W4.heap.size mv ok val W3 _ HB5.out (by omega) HN5.out HQ4.out.l4 (by have := HQ4.out.l1; have := HQ4.out.l2; have := HQ4.out.l3; have := HQ4.out.l4; omega) HFA.out HFP.out HI3.out HSZ.out HIN.out HQ5.out).mono ?_
  rintro e W6 ⟨g, rfl, hgot, hb6, -⟩
  have HG6 := hid (got_back hgot)
  have HN6 := hid (HN3.out.below hb6)
  have HBX6 := hid (HBX3.out.below hb6)
  have HP6 := hid (HP3.out.below hb6)
  have HI6 := hid (HI3.out.below hb6)
  have HB6 := hid (HB3.out.trans (hb6.mono HB3.out.size))
  have HQN := hid (And.intro HQ4.out.nD (And.intro HQ4.out.nM (And.intro HQ4.out.nS (And.intro HQ4.out.nC HQ4.out.nY))))
  obtain ⟨gq, hgq⟩ : ∃ gq, W3.heap.size + 1 = gq := ⟨_, rfl⟩
  obtain ⟨gd, hgd⟩ : ∃ gd, W5.heap.size = gd := ⟨_, rfl⟩
  rw [hgq, hgd] at HG6
  clear hgot hb6 HN3 HBX3 HP3 HI3 HB3 HB4 HB5 HQ4 HQ5 HN4 HN5
  have hn := HFA.out.1
  go_wp2_with (refine wpList_make_full _ rfl (.tmp 58) (.tmp 58) 34 rfl W6.heap.size 39 i39 (.slice none 0 0) 1 Try.underlying34 hinf39 hz390 hz391 .i64 .i64 _ _ a.n rfl rfl rfl rfl (by rw [hz392]; omega) (by unfold maxLen; omega) (Nat.le_refl _) ?_; intro W7 hown7 hgr7; have HL7 := hid (LI.start (a := a) (ok := ok) (val := val) (vw := fun _ => .slice none 0 0) hown7 ((Below.refl _ _).grown hgr7 (Nat.le_refl _) (by simp))); clear hown7 hgr7)
  go_loopw [12, 13, 14, 15] (fun vp vA vB vi wr => ∃ (i : Nat) (xs : List Value) (vw : Nat → Value) (A B : Value), i ≤ a.n ∧ A = vA ∧ B = vB ∧ vi = .int .i64 i ∧ vp = .int .i64 (sumTo (fun i => (D a ok val i (a.m i)).length) i) ∧ Hid (LI a ok val W6.heap.size W6 wr i vA vB (am a ok i) (asl a i) xs vw)) (fun _ _ _ vi _ => a.n - (intOf vi).toNat)
  case atStart => exact ⟨0, _, _, _, _, Nat.zero_le _, rfl, rfl, rfl, rfl, HL7.out⟩
  case round =>
    obtain ⟨i, xs, vw, vA, vB, hi, rfl, rfl, rfl, rfl, HL⟩ := hrel
    clear HL7
    obtain ⟨W8, rfl⟩ : ∃ W8, W8 = wr := ⟨_, rfl⟩
    have hsum : sumTo (fun i => (D a ok val i (a.m i)).length) i ≤ i * 4096 := sumTo_le i fun j hj => by have := D_len (ok := ok) (val := val) (a := a) j (a.m j); have := HFA.out.2 j (by omega); omega
    by_cases hlt : i < a.n
    · have hb8 := HL.out.bel
      have HN8 := hid (HN6.out.below hb8)
      have HI8 := hid (HI6.out.below hb8)
      clear hb8
      obtain ⟨b, off, hx, hbl, hc0, hc1, hrs⟩ := HN8.out.at hlt
      have hx' : x3 = some ⟨b, off, none⟩ := hx
      subst hx'
      have hc0' : W8.cell? ⟨b, off + i * 2, none⟩ = some (.string (a.id i)) := hc0
      have hc1' : W8.cell? ⟨b, off + i * 2 + 1, none⟩ = some (.slice (y3 i) (a.m i) (k3 i)) := hc1
      have HRS : Hid (RdS W8 W2.heap.size (y3 i) (a.m i) (a.s i)) := hrs
      clear hx hc0 hc1 hrs
      have hm := HFA.out.2 i hlt
      have hil : (i : Int) < a.n := by omega
      go_wp2_with fail
      refine (f10_own (a.id i) (y3 i) (a.m i) (k3 i) W2.heap.size (a.s i) mv ok val _ HRS.out HI8.out (HSZ.out i) hm).mono ?_
      rintro e W9 ⟨y9, c9, rfl, hn9, hb9, ho9⟩
      have hDe : du (a.id i) (a.s i) ok val (a.m i) = D a ok val i (a.m i) := rfl
      rw [hDe] at hn9 ho9 ⊢
      have HL9 := hid (HL.out.below hb9)
      obtain ⟨o0, ho0, hf0⟩ := want_cell HL9.out hlt
      have hDl := D_len (ok := ok) (val := val) (a := a) i (a.m i)
      have HL10 := hid (HL9.out.row hlt (owns_base ho9 (Nat.le_of_lt HL.out.lt)))
      have HB9 := hid hb9
      have HN9 := hid hn9
      clear hn9 hb9 ho9 hc0' hc1' HL HL9 HN8 HI8 HRS
      obtain ⟨W10, hW10⟩ : ∃ W10, W9.setCell ⟨W6.heap.size, i, none⟩ (.slice y9 (D a ok val i (a.m i)).length c9) = W10 := ⟨_, rfl⟩
      rw [hW10] at HL10
      have hwc : W10.cell? ⟨W6.heap.size, i, none⟩ = some (.slice y9 (D a ok val i (a.m i)).length c9) := by
        have := row_cell HL10.out (by omega) (Nat.lt_succ_self i); rw [if_pos rfl] at this; exact this
      obtain ⟨ld, hld⟩ : ∃ ld, (D a ok val i (a.m i)).length = ld := ⟨_, rfl⟩
      have hldl : ld ≤ 4096 := by omega
      have HB10 := hid (HL10.out.bel)
      have hcg : W10.cell? ⟨gd, i, none⟩ = some (.slice (g.yd i) ld (g.cd i)) := by
        obtain ⟨b0, off0, h1, _, _, h2⟩ := (HG6.out.below HB10.out).rd.at1 hlt
        cases h1; rw [Nat.zero_add, hld] at h2; exact h2
      have HNN : Hid ((g.yd i).isNone = y9.isNone) := isNone_iff ((HG6.out.ndi i hlt).trans HN9.out.symm)
      have HR1 : Hid (RdI W10 0 (g.yd i) ld (fun k => (D a ok val i (a.m i)).getD k 0)) := by have := (HG6.out.below HB10.out).rdi i hlt; rw [hld] at this; exact this
      have HR2 : Hid (RdI W10 0 y9 ld (fun k => (D a ok val i (a.m i)).getD k 0)) := by have := (row_read HL10.out (Nat.lt_succ_self i)).2; rw [if_pos rfl, hld] at this; exact this
      rw [hld] at hwc hW10 hDl ⊢
      obtain ⟨sm, hsm⟩ : ∃ sm, sumTo (fun i => (D a ok val i (a.m i)).length) i = sm := ⟨_, rfl⟩
      rw [hsm] at hsum ⊢
      have HLD := hid hld
      have HSM := hid hsm
      clear hld hsm hDe
      go_wp2_with fail
      clear hW10 ho0 hf0
      go_quiet ((go_at_call 11; exact Calls.quiet_of (f11_q _ _ _ _ _ 0 0 (fun k => (D a ok val i (a.m i)).getD k 0) _ (by exact HR1.out) (by exact HR2.out) HNN.out (by omega))))
      clear hwc hcg HR1 HR2 HNN HB10 HB9 HN9
      obtain ⟨W11, hW11⟩ : ∃ W11, W10.drewN nq = W11 := ⟨_, rfl⟩
      have HL11 := hid (HL10.out.below (below_drewN (Below.refl _ _) nq))
      rw [hW11] at HL11 ⊢
      clear hW11 HL10
      have hb11 := HL11.out.bel
      have HI11 := hid (HI6.out.below hb11)
      obtain ⟨b', off', hx, hbl', hc0, hc1, hrs⟩ := (HN6.out.below hb11).at hlt
      have hx' : some (⟨b, off, none⟩ : Addr) = some ⟨b', off', none⟩ := hx
      cases hx'
      have hc0' : W11.cell? ⟨b, off + i * 2, none⟩ = some (.string (a.id i)) := hc0
      have hc1' : W11.cell? ⟨b, off + i * 2 + 1, none⟩ = some (.slice (y3 i) (a.m i) (k3 i)) := hc1
      have HRS : Hid (RdS W11 W2.heap.size (y3 i) (a.m i) (a.s i)) := hrs
      clear hx hc0 hc1 hrs hb11 hbl'
      go_wp2_with fail
      refine (f12_any (a.id i) (y3 i) (a.m i) (k3 i) W2.heap.size (a.s i) mv ok val _ HRS.out HI11.out (HSZ.out i) hm).mono ?_
      rintro e W12 ⟨y12, c12, rfl, hb12, hE12⟩
      have hMe : me (a.id i) (a.s i) ok (a.m i) = M a ok i (a.m i) := rfl
      rw [hMe] at hE12 ⊢
      have hMl := M_len (ok := ok) (a := a) i (a.m i)
      have hAl := am_len (ok := ok) HFA.out.2 (Nat.le_of_lt hlt)
      obtain ⟨lm, hlm⟩ : ∃ lm, (M a ok i (a.m i)).length = lm := ⟨_, rfl⟩
      rw [hlm] at hE12 hMl ⊢
      have HLM := hid hlm
      have HE12 := hid hE12
      have HL12 := hid (HL11.out.below hb12)
      have HAT : Hid (∀ g, vA.ownBlock = some g → g < W11.heap.size ∨ W12.heap.size ≤ g) := fun g hg => .inl (HL11.out.oA.lt g hg).2
      clear hlm hE12 hb12 hc0' hc1' HL11 HRS HI11 hMe
      obtain ⟨xs1, vw1, HL13⟩ : ∃ xs1 vw1, Hid (LI a ok val W6.heap.size W6 W12 (i + 1) vA vB (am a ok i) (asl a i) xs1 vw1) := ⟨_, _, HL12⟩
      clear HL12
      go_wp2_with fail
      go_loopw [13, 17] (fun va vk wr => ∃ (k : Nat) (A : Value), k ≤ lm ∧ A = va ∧ vk = .int .i64 k ∧ Hid (LI a ok val W6.heap.size W6 wr (i + 1) A vB (am a ok i ++ (M a ok i (a.m i)).take k) (asl a i) xs1 vw1) ∧ Hid (Above W11.heap.size W12 wr) ∧ Hid (∀ g, A.ownBlock = some g → g < W11.heap.size ∨ W12.heap.size ≤ g)) (fun _ vk _ => lm - (intOf vk).toNat)
      case atStart => exact ⟨0, _, Nat.zero_le _, rfl, rfl, by rw [List.take_zero, List.append_nil]; exact HL13, Above.of (Below.refl _ _), HAT⟩
      case round =>
        obtain ⟨k, vA1, hk, rfl, rfl, HLk, HAB, HATk⟩ := hrel
        clear HL13 HAT
        obtain ⟨W13, rfl⟩ : ∃ W13, W13 = wr := ⟨_, rfl⟩
        by_cases hkl : k < lm
        · obtain ⟨b2, off2, hx2, -, hbl2, hm0, hm1⟩ := (HE12.out.carry HAB.out (Nat.le_refl _)).at2 hkl
          subst hx2
          have hkl' : (k : Int) < lm := by omega
          have HTK : Hid (am a ok i ++ (M a ok i (a.m i)).take (k + 1) = (am a ok i ++ (M a ok i (a.m i)).take k) ++ [(((M a ok i (a.m i)).getD k noEdge).1, ((M a ok i (a.m i)).getD k noEdge).2)]) := by
            unfold Hid; rw [take_next _ (by rw [HLM.out]; exact hkl), ← List.append_assoc]
          have htl : (am a ok i ++ (M a ok i (a.m i)).take k).length ≤ 536870912 := by rw [List.length_append, List.length_take]; omega
          have hsz13 := HLk.out.lt
          have hAB1 := HAB.out.1
          obtain ⟨ed, hed⟩ : ∃ ed, (M a ok i (a.m i)).getD k noEdge = ed := ⟨_, rfl⟩
          have hm0' : W13.cell? ⟨b2, off2 + k * 2, none⟩ = some (.string ed.1) := by rw [← hed]; exact hm0
          have hm1' : W13.cell? ⟨b2, off2 + k * 2 + 1, none⟩ = some (.string ed.2) := by rw [← hed]; exact hm1
          rw [hed] at HTK
          obtain ⟨lk, hlk⟩ : ∃ lk, am a ok i ++ (M a ok i (a.m i)).take k = lk := ⟨_, rfl⟩
          rw [hlk] at HTK HLk htl
          clear hed hm0 hm1 hlk
          go_wp2_with (at_builtin; refine wpList_append_own_at _ rfl (.tmp 103) (.tmp 108) 25 rfl W6.heap.size 46 i46 (.agg #[.string ByteArray.empty, .string ByteArray.empty]) 2 32 Try.underlying25 hinf46 hz460 hz461 hz462 rfl (by decide) _ _ _ rfl (HLk.out.oA.alloc _) ⟨W13.heap.size, 0, none⟩ 1 1 [.string ed.1, .string ed.2] rfl rfl cell_two (str_two _ _) ?c3 ?c4 ?c5 ?_)
          case c3 => unfold maxLen; omega
          case c4 => omega
          case c5 => first | omega | (simp; omega) | (show _ ≤ (World.alloc _ _).heap.size; rw [World.size_alloc]; omega)
          · intro v' w4 hown4 hgrow hnil hat
            have HL' := hid (HLk.out.appA hown4 hgrow)
            rw [← HTK.out] at HL'
            have HAB' := hid (above_app HAB.out hgrow HATk.out)
            have HAT' := hid (app_at HATk.out hat (by omega))
            clear hown4 hgrow hnil hat
            go_wp2_with fail
            go_roundw
            case rel => exact ⟨k + 1, _, by omega, rfl, by go_num, HL', HAB', HAT'⟩
            case measure => simp [intOf]; omega
        · have hkl' : ¬ (k : Int) < lm := by omega
          have HLm : Hid (LI a ok val W6.heap.size W6 W13 (i + 1) vA1 vB (am a ok (i + 1)) (asl a i) xs1 vw1) := by
            have h1 := HLk.out
            have hkk : k = lm := by omega
            rw [hkk, ← HLM.out, List.take_length, ← am_next] at h1; exact h1
          clear HLk HAB HATk HE12
          have hb13 := HLm.out.bel
          obtain ⟨b', off', hx, hbl', hc0, hc1, hrs⟩ := (HN6.out.below hb13).at hlt
          have hx' : some (⟨b, off, none⟩ : Addr) = some ⟨b', off', none⟩ := hx
          cases hx'
          have hc0' : W13.cell? ⟨b, off + i * 2, none⟩ = some (.string (a.id i)) := hc0
          have hc1' : W13.cell? ⟨b, off + i * 2 + 1, none⟩ = some (.slice (y3 i) (a.m i) (k3 i)) := hc1
          have HRS : Hid (RdS W13 W2.heap.size (y3 i) (a.m i) (a.s i)) := hrs
          clear hx hc0 hc1 hrs hb13
          go_wp2_with fail
          refine (f13_any (a.id i) (y3 i) (a.m i) (k3 i) W2.heap.size (a.s i) _ HRS.out hm).mono ?_
          rintro e W14 ⟨rfl, hb14⟩
          have hUe : su (a.id i) (a.s i) (a.m i) = U a i := rfl
          rw [hUe]
          have HL14 := hid (HLm.out.below hb14)
          have hc0'' : W14.cell? ⟨b, off + i * 2, none⟩ = some (.string (a.id i)) := (hb14.cell (p := ⟨b, off + i * 2, none⟩) hbl').trans hc0'
          clear HLm hb14 hc0' hc1' HRS hUe hbl'
          have HSM1 : Hid (sumTo (fun i => (D a ok val i (a.m i)).length) (i + 1) = sm + ld) := by unfold Hid; simp only [sumTo]; rw [HSM.out, HLD.out]
          have hBl := asl_len (a := a) (i := i)
          cases hU : U a i
          · have HAS : Hid (asl a (i + 1) = asl a i) := by unfold Hid; rw [asl_next, hU]; simp
            clear hU
            go_wp2_with fail
            go_roundw
            case rel => exact ⟨i + 1, _, _, _, _, by omega, rfl, rfl, by go_num, by rw [HSM1.out]; go_num, by rw [HAS.out]; exact HL14⟩
            case measure => simp [intOf]; omega
          · have HAS : Hid (asl a (i + 1) = asl a i ++ [a.id i]) := by unfold Hid; rw [asl_next, hU]; simp
            clear hU
            have hsz14 := HL14.out.lt
            go_wp2_with (at_builtin; refine wpList_append_own_at _ rfl (.tmp 115) (.tmp 121) 24 rfl W6.heap.size 9 i9 (.string ByteArray.empty) 1 16 Try.underlying24 hinf9 hz90 hz91 hz92 rfl (by decide) _ _ _ rfl (HL14.out.oB.alloc _) ⟨W14.heap.size, 0, none⟩ 1 1 [.string (a.id i)] rfl rfl (cell_one_new _ _ _) (str_one _) ?c3 ?c4 ?c5 ?_)
            case c3 => unfold maxLen; omega
            case c4 => omega
            case c5 => first | omega | (simp; omega) | (show _ ≤ (World.alloc _ _).heap.size; rw [World.size_alloc]; omega)
            · intro v' w4 hown4 hgrow hnil hat
              have HL' := hid (HL14.out.appB hown4 hgrow)
              rw [← HAS.out] at HL'
              clear hown4 hgrow hnil hat
              go_wp2_with fail
              go_roundw
              case rel => exact ⟨i + 1, _, _, _, _, by omega, rfl, rfl, by go_num, by rw [HSM1.out]; go_num, HL'⟩
              case measure => simp [intOf]; omega
    · have hia : i = a.n := by omega
      subst hia
      have hil : ¬ (a.n : Int) < a.n := by omega
      have hb8 := HL.out.bel
      have HG8 := hid (HG6.out.below hb8)
      have HBX8 := hid (HBX6.out.below hb8)
      have HP8 := hid (HP6.out.below hb8)
      have HB8 := hid (HB6.out.trans (hb8.mono HB6.out.size))
      clear hb8 HG6 HBX6 HP6 HB6 HN6 HI6
      obtain ⟨yA, cA, hvA⟩ := owns_form HL.out.oA
      obtain ⟨yB, cB, hvB⟩ := owns_form HL.out.oB
      subst hvA hvB
      have q39 := eqnil 39 3 Try.underlying39
      go_wp2_with fail
      go_loop [18, 19] (fun vl vd => ∃ d : Nat, d ≤ a.n ∧ vd = .int .i64 d ∧ vl = .int .i64 (sumTo (fun d => (el a ok val a.n 0 d).length) d)) (fun _ vd => a.n - (intOf vd).toNat)
      case atStart => exact ⟨0, Nat.zero_le _, rfl, rfl⟩
      case round =>
        obtain ⟨d, hd, rfl, rfl⟩ := hrel
        have hsl : sumTo (fun d => (el a ok val a.n 0 d).length) d ≤ d * 65537 := sumTo_le d fun j hj => by have := el_len (a := a) (ok := ok) (val := val) (i := a.n) (k := 0) (d := j); omega
        by_cases hdl : d < a.n
        · have hell := el_len (a := a) (ok := ok) (val := val) (i := a.n) (k := 0) (d := d)
          have hnt := nil_test HG8.out hdl
          have hce : W8.cell? ⟨g.gE, d, none⟩ = some (.slice (g.ye d) (el a ok val a.n 0 d).length (g.ce d)) := by
            obtain ⟨b0, off0, h1, _, _, h2⟩ := HG8.out.re.at1 hdl
            cases h1; rw [Nat.zero_add] at h2; exact h2
          have HRE := hid (HG8.out.rei d hdl)
          have HSL : Hid (sumTo (fun d => (el a ok val a.n 0 d).length) (d + 1) = sumTo (fun d => (el a ok val a.n 0 d).length) d + (el a ok val a.n 0 d).length) := rfl
          obtain ⟨sm, hsm⟩ : ∃ sm, sumTo (fun d => (el a ok val a.n 0 d).length) d = sm := ⟨_, rfl⟩
          have HEL : Hid (∀ k, k < (el a ok val a.n 0 d).length → ∃ i : Nat, (el a ok val a.n 0 d).getD k 0 = (i : Int) ∧ i < a.n ∧ (d : Int) ∈ D a ok val i (a.m i)) := fun k hk => el_getD hk
          have HLT : Hid (∀ k, k + 1 < (el a ok val a.n 0 d).length → (el a ok val a.n 0 d).getD k 0 < (el a ok val a.n 0 d).getD (k + 1) 0) := fun k hk => el_lt hk
          obtain ⟨le, hle⟩ : ∃ le, (el a ok val a.n 0 d).length = le := ⟨_, rfl⟩
          obtain ⟨yl, hyl⟩ : ∃ yl, g.ye d = yl := ⟨_, rfl⟩
          rw [hsm] at hsl HSL ⊢
          rw [hle] at hell hnt hce HRE HEL HLT HSL
          rw [hyl] at hce hnt HRE
          clear hsm hle hyl
          have hdi : (d : Int) < a.n := by omega
          go_wp2_with fail
          go_loop [21] (fun vk => ∃ k : Nat, k ≤ le ∧ vk = .int .i64 k) (fun vk => le - (intOf vk).toNat)
          case atStart => exact ⟨0, Nat.zero_le _, rfl⟩
          case round =>
            obtain ⟨k, hk, rfl⟩ := hrel
            by_cases hkl : k < le
            · obtain ⟨b, off, hx, -, -, hc⟩ := HRE.out.at1 hkl
              subst hx
              obtain ⟨ii, hii, hin, hmem⟩ := HEL.out k hkl
              have hc' : W8.cell? ⟨b, off + k, none⟩ = some (.int .i64 (ii : Int)) := by rw [← hii]; exact hc
              have hki : (k : Int) < le := by omega
              have hi1 : (ii : Int) < a.n := by omega
              have hi0 : ¬ (ii : Int) < 0 := by omega
              have hi2 : ¬ (a.n : Int) ≤ ii := by omega
              have hwc : W8.cell? ⟨W6.heap.size, ii, none⟩ = some (.slice (adr (vw ii)) (D a ok val ii (a.m ii)).length (cp (vw ii))) := by rw [row_cell HL.out (Nat.le_refl _) hin]; exact congrArg some (row_read HL.out hin).1
              have HRW := hid (row_read HL.out hin).2
              have HMEM := hid (D_at hmem)
              have hDl : (D a ok val ii (a.m ii)).length ≤ 4096 := by have := D_len (ok := ok) (val := val) (a := a) ii (a.m ii); have := HFA.out.2 ii hin; omega
              clear hc hmem
              have HC := hid (f14_yes (adr (vw ii)) (D a ok val ii (a.m ii)).length (cp (vw ii)) 0 (fun j => (D a ok val ii (a.m ii)).getD j 0) (d : Int) W8 HRW.out HMEM.out (by omega))
              rcases Nat.eq_zero_or_pos k with h0 | h0
              · subst h0
                have hc0 : W8.cell? ⟨b, off, none⟩ = some (.int .i64 (ii : Int)) := hc'
                clear hii hc'
                go_wp2_with fail
                refine HC.out.mono ?_
                rintro e w' ⟨rfl, rfl⟩
                go_wp2_with fail
                go_round
                case rel =>
                  refine ⟨trivial, ?_⟩
                  (repeat apply Exists.intro)
                  exact ⟨⟨1, by omega, by go_num⟩, rfl⟩
                case measure => simp [intOf]; omega
              · obtain ⟨k', rfl⟩ : ∃ k', k = k' + 1 := ⟨k - 1, by omega⟩
                obtain ⟨b2, off2, hx2, -, -, hc2⟩ := HRE.out.at1 (k := k') (by omega)
                cases hx2
                obtain ⟨jj, hjj, -, -⟩ := HEL.out k' (by omega)
                have hc2' : W8.cell? ⟨b, off + k', none⟩ = some (.int .i64 (jj : Int)) := by rw [← hjj]; exact hc2
                have hlt' := HLT.out k' hkl
                rw [hjj, hii] at hlt'
                have hlt2 : ¬ (ii : Int) ≤ jj := by omega
                have hkp : (0 : Int) < (k' : Int) + 1 := by omega
                have hk2 : (k' : Int) < le := by omega
                have hw1 : IntKind.i64.wrap ((k' : Int) + 1 - 1) = k' := by rw [IntWalk.i64_in _ ⟨by omega, by omega⟩]; omega
                have hw2 : IntKind.i64.wrap (k' : Int) = k' := IntWalk.i64_in _ ⟨by omega, by omega⟩
                clear hii hjj hc2 hlt'
                go_wp2_with fail
                refine HC.out.mono ?_
                rintro e w' ⟨rfl, rfl⟩
                go_wp2_with fail
                go_round
                case rel =>
                  refine ⟨trivial, ?_⟩
                  (repeat apply Exists.intro)
                  exact ⟨⟨k' + 1 + 1, by omega, by go_num⟩, rfl⟩
                case measure => simp [intOf]; omega
            · have hki : ¬ (k : Int) < le := by omega
              go_wp2_with fail
              go_round
              case rel => exact ⟨d + 1, by omega, by go_num, by rw [HSL.out]; go_num⟩
              case measure => simp [intOf]; omega
        · have hda : d = a.n := by omega
          subst hda
          have hdi : ¬ (a.n : Int) < a.n := by omega
          rw [count HIN.out]
          obtain ⟨-, e0, e1, e2, e3⟩ := HBX8.out
          go_wp2_with fail
          refine (f15_any p gq (tv a ok p q g yA cA yB cB) W8 (aft_of HG8.out HP8.out HL.out.oA HL.out.oB) (aftp_of HG8.out HFA.out.2 hn HQN.out) HFP.out).mono ?_
          rintro e w9 ⟨rfl, hb9⟩
          clear e0 e1 e2 e3
          go_wp2_with fail
          go_ret
          exact ⟨rfl, HB8.out.trans (hb9.mono HB8.out.size)⟩
end Go.Proofs.Qxb6603999a.Law

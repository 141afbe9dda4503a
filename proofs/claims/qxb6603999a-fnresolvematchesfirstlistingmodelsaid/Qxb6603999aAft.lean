import Derived.Test.Qxb6603999aCopyP
import Derived.Test.Qxb6603999aSameQ
import Derived.Deep.CutRange
import Derived.IntWalk
namespace Go.Proofs.Qxb6603999a.Aft
open Go.RowKit Go.Proofs.Qxb6603999a.Common Go.Proofs.Qxb6603999a.Fit Go.Proofs.Qxb6603999a.CopyP Go.Proofs.Qxb6603999a.SameQ

/-- What q holds, and the two lists that were to be added. -/
structure AV where
  yD : Option Addr
  cD : Nat
  yM : Option Addr
  cM : Nat
  F : Nat → ByteArray
  T : Nat → ByteArray
  yS : Option Addr
  cS : Nat
  Z : Nat → ByteArray
  yC : Option Addr
  cC : Nat
  y : Nat → Option Addr
  kc : Nat → Nat
  xA : Option Addr
  nA : Nat
  cA : Nat
  fA : Nat → ByteArray
  tA : Nat → ByteArray
  xB : Option Addr
  nB : Nat
  cB : Nat
  sB : Nat → ByteArray
structure Aft (p : Prob) (gq : Nat) (t : AV) (w : World) : Prop where
  lt : gq < w.heap.size
  q0 : w.cell? ⟨gq, 0, none⟩ = some (.slice t.yD p.nD t.cD)
  q1 : w.cell? ⟨gq, 1, none⟩ = some (.slice t.yM (p.nM + t.nA) t.cM)
  q2 : w.cell? ⟨gq, 2, none⟩ = some (.slice t.yS (p.nS + t.nB) t.cS)
  q3 : w.cell? ⟨gq, 3, none⟩ = some (.slice t.yC p.nC t.cC)
  rp : p.Reads w 0
  rD : RdS w 0 t.yD p.nD p.sD
  rM : RdE w 0 t.yM (p.nM + t.nA) t.F t.T
  rS : RdS w 0 t.yS (p.nS + t.nB) t.Z
  rC : RdC w 0 t.yC p.nC t.y p.mC t.kc p.sC
  rA : RdE w 0 t.xA t.nA t.fA t.tA
  rB : RdS w 0 t.xB t.nB t.sB
structure AftP (p : Prob) (t : AV) : Prop where
  nD : t.yD = none ↔ p.xD = none
  nC : t.yC = none ↔ p.xC = none
  nY : ∀ j, j < p.nC → (t.y j = none ↔ p.yC j = none)
  nM : t.yM = none ↔ p.xM = none ∧ t.nA = 0
  nS : t.yS = none ↔ p.xS = none ∧ t.nB = 0
  M0 : ∀ j, j < p.nM → t.F j = p.fM j ∧ t.T j = p.tM j
  M1 : ∀ j, j < t.nA → t.F (p.nM + j) = t.fA j ∧ t.T (p.nM + j) = t.tA j
  S0 : ∀ j, j < p.nS → t.Z j = p.sS j
  S1 : ∀ j, j < t.nB → t.Z (p.nS + j) = t.sB j
  bA : t.nA ≤ 1073741824
  bB : t.nB ≤ 1073741824
theorem Aft.below {p : Prob} {gq : Nat} {t : AV} {w w' : World} (h : Aft p gq t w) (hb : Below w.heap.size w w') : Aft p gq t w' :=
  { lt := Nat.lt_of_lt_of_le h.lt hb.size, q0 := (hb.cell (p := ⟨gq, 0, none⟩) h.lt).trans h.q0, q1 := (hb.cell (p := ⟨gq, 1, none⟩) h.lt).trans h.q1, q2 := (hb.cell (p := ⟨gq, 2, none⟩) h.lt).trans h.q2, q3 := (hb.cell (p := ⟨gq, 3, none⟩) h.lt).trans h.q3,
    rp := h.rp.below hb, rD := h.rD.below hb, rM := h.rM.below hb, rS := h.rS.below hb, rC := h.rC.below hb, rA := h.rA.below hb, rB := h.rB.below hb }

theorem isNone_iff {x y : Option Addr} (h : x = none ↔ y = none) : x.isNone = y.isNone := by
  cases x <;> cases y <;> simp_all

/-- The test on nil, three ways. -/
theorem nil3 {x y : Option Addr} {n : Nat} (h : x = none ↔ y = none ∧ n = 0) : (y.isNone = false ∧ x.isNone = false) ∨ (y.isNone = true ∧ ((n : Int) == 0) = true ∧ x.isNone = true) ∨ (y.isNone = true ∧ ((n : Int) == 0) = false ∧ x.isNone = false) := by
  cases y with
  | some a => left; refine ⟨rfl, ?_⟩; cases x with
    | some b => rfl
    | none => exact absurd (h.1 rfl).1 (by simp)
  | none =>
    right
    by_cases hn : n = 0
    · left; subst hn; refine ⟨rfl, by simp, ?_⟩; rw [h.2 ⟨rfl, rfl⟩]; rfl
    · right; refine ⟨rfl, by simp; omega, ?_⟩; cases x with
      | some b => rfl
      | none => exact absurd (h.1 rfl).2 hn

set_option maxRecDepth 100000 in
set_option maxHeartbeats 4000000 in
theorem f15_any (p : Prob) (gq : Nat) (t : AV) (w : World) (h : Aft p gq t w) (hp : AftP p t) (hf : p.Fits) :
    Calls Try.prog 15 #[.pointer (some ⟨gq, 0, none⟩), .agg #[.slice p.xD p.nD p.cD, .slice p.xM p.nM p.cM, .slice p.xS p.nS p.cS, .slice p.xC p.nC p.cC], .slice t.xA t.nA t.cA, .slice t.xB t.nB t.cB] w fun e w' => e = .returned (.bool true) ∧ Below w.heap.size w w' := by
  have qA := eqnil 26 24 Try.underlying26
  have qB := eqnil 25 46 Try.underlying25
  have qC := eqnil 54 57 Try.underlying54
  have qD := eqnil 24 9 Try.underlying24
  obtain ⟨hf1, hf2, hf3, hf4, hf5⟩ := hf
  have HF5 := hid hf5
  clear hf5
  have hbA := hp.bA
  have hbB := hp.bB
  have HP := hid hp
  clear hp
  have hbx : Below w.heap.size w (w.alloc (.cells #[.slice p.xD p.nD p.cD, .slice p.xM p.nM p.cM, .slice p.xS p.nS p.cS, .slice p.xC p.nC p.cC] 28)) := (Below.refl _ _).alloc (Nat.le_refl _) _
  have HBX : Hid (Box (w.alloc (.cells #[.slice p.xD p.nD p.cD, .slice p.xM p.nM p.cM, .slice p.xS p.nS p.cS, .slice p.xC p.nC p.cC] 28)) w.heap.size p) := ⟨by simp, by simp, by simp, by simp, by simp⟩
  have HA := hid (h.below hbx)
  have HB := hid hbx
  clear hbx h
  obtain ⟨W, hW⟩ : ∃ W, w.alloc (.cells #[.slice p.xD p.nD p.cD, .slice p.xM p.nM p.cM, .slice p.xS p.nS p.cS, .slice p.xC p.nC p.cC] 28) = W := ⟨_, rfl⟩
  rw [hW] at HBX HA HB
  obtain ⟨-, e0, e1, e2, e3⟩ := HBX.out
  have q0 := HA.out.q0
  have q1 := HA.out.q1
  have q2 := HA.out.q2
  have q3 := HA.out.q3
  have hgC : (t.yC.isNone == p.xC.isNone) = true := by rw [isNone_iff HP.out.nC]; simp
  go_enter Try.func15, Try.ntmps15
  go_wp2_with fail
  go_quiet ((go_at_call 20; exact Calls.quiet_of (f20_q _ _ _ _ _ 0 0 p.sD _ (by exact HA.out.rD) (by exact HA.out.rp.1) (isNone_iff HP.out.nD) (by omega))))
  go_wp2_with fail
  go_quiet (fail)
  go_wp2_with fail
  clear q0 q1 q2 q3 e0 e1 e2 e3 hgC hW
  go_loopw [9] (fun i wr => ∃ k : Nat, k ≤ p.nC ∧ i = .int .i64 k ∧ Hid (Below W.heap.size W wr)) (fun i _ => p.nC - (intOf i).toNat)
  case atStart => exact ⟨0, Nat.zero_le _, rfl, below_drewN (below_drewN (Below.refl _ _) _) _⟩
  case round =>
    obtain ⟨k, hk, rfl, RB⟩ := hrel
    have HAr := hid (HA.out.below RB.out)
    have HBXr := hid (HBX.out.below RB.out)
    have HBr := hid (HB.out.trans (RB.out.mono HB.out.size))
    clear HA HBX HB
    have q3 := HAr.out.q3
    obtain ⟨-, -, -, -, e3⟩ := HBXr.out
    obtain ⟨W1, rfl⟩ : ∃ W1, W1 = wr := ⟨_, rfl⟩
    by_cases hlt : k < p.nC
    · obtain ⟨b, off, hx, -, -, hc⟩ := HAr.out.rC.1.at1 hlt
      obtain ⟨b', off', hx', -, -, hc'⟩ := HAr.out.rp.2.2.2.1.at1 hlt
      rw [hx] at q3
      rw [hx'] at e3
      clear hx hx'
      have hi : (k : Int) < p.nC := by omega
      have hmk := HF5.out k hlt
      go_wp2_with fail
      go_quiet ((go_at_call 20; exact Calls.quiet_of (f20_q _ _ _ _ _ 0 0 (p.sC k) _ (by exact HAr.out.rC.2 k hlt) (by exact HAr.out.rp.2.2.2.2 k hlt) (isNone_iff (HP.out.nY k hlt)) (by omega))))
      go_wp2_with fail
      go_roundw
      case rel => exact ⟨k + 1, by omega, by go_num, below_drewN RB.out _⟩
      case measure => simp [intOf]; omega
    · have hi : ¬ (k : Int) < p.nC := by omega
      go_upto_region 10 with fail
      clear q3 e3 hi hlt RB
      have HN := hid (nil3 HP.out.nM)
      go_cut [77] from 64 to 77 (fun x wc => x = .bool false ∧ Hid (∃ m, wc = W1.drewN m))
      case first =>
        have q1 := HAr.out.q1
        obtain ⟨-, -, e1, -, -⟩ := HBXr.out
        rcases HN.out with ⟨h1, h2⟩ | ⟨h1, h2, h3⟩ | ⟨h1, h2, h3⟩
        all_goals
          clear HN
          go_quiet (fail)
          go_wp2_with fail
          go_meet
          case rel => exact ⟨rfl, _, rfl⟩
      case rest =>
        obtain ⟨rfl, m1, rfl⟩ := hcut
        have q1 := HAr.out.q1
        obtain ⟨-, -, e1, -, -⟩ := HBXr.out
        go_wp2_with fail
        go_quiet (fail)
        go_wp2_with fail
        clear q1 e1 HN
        go_loopw [10] (fun i wr => ∃ k : Nat, k ≤ p.nM ∧ i = .int .i64 k ∧ Hid (Below W1.heap.size W1 wr)) (fun i _ => p.nM - (intOf i).toNat)
        case atStart => exact ⟨0, Nat.zero_le _, rfl, below_drewN (below_drewN (Below.refl _ _) _) _⟩
        case round =>
          obtain ⟨k2, hk2, rfl, RB⟩ := hrel
          have HA2 := hid (HAr.out.below RB.out)
          have HBX2 := hid (HBXr.out.below RB.out)
          have HB2 := hid (HBr.out.trans (RB.out.mono HBr.out.size))
          clear HAr HBXr HBr
          have q1 := HA2.out.q1
          obtain ⟨-, -, e1, -, -⟩ := HBX2.out
          obtain ⟨W2, rfl⟩ : ∃ W2, W2 = wr := ⟨_, rfl⟩
          by_cases hlt : k2 < p.nM
          · obtain ⟨b, off, hx, -, -, hc, hd⟩ := HA2.out.rM.at2 (k := k2) (by omega)
            obtain ⟨b', off', hx', -, -, hc', hd'⟩ := HA2.out.rp.2.1.at2 hlt
            rw [hx] at q1
            rw [hx'] at e1
            clear hx hx'
            obtain ⟨m0, m1'⟩ := HP.out.M0 k2 hlt
            rw [m0] at hc
            rw [m1'] at hd
            clear m0 m1'
            have hi : (k2 : Int) < p.nM := by omega
            have hi2 : (k2 : Int) < p.nM + t.nA := by omega
            go_wp2_with fail
            go_quiet (fail)
            go_wp2_with fail
            go_roundw
            case rel => exact ⟨k2 + 1, by omega, by go_num, below_drewN RB.out _⟩
            case measure => simp [intOf]; omega
          · have hi : ¬ (k2 : Int) < p.nM := by omega
            go_wp2_with fail
            clear q1 e1 hi hlt RB
            go_loopw [11] (fun i wr => ∃ k : Nat, k ≤ t.nA ∧ i = .int .i64 k ∧ Hid (Below W2.heap.size W2 wr)) (fun i _ => t.nA - (intOf i).toNat)
            case atStart => exact ⟨0, Nat.zero_le _, rfl, Below.refl _ _⟩
            case round =>
              obtain ⟨k3, hk3, rfl, RB⟩ := hrel
              have HA3 := hid (HA2.out.below RB.out)
              have HBX3 := hid (HBX2.out.below RB.out)
              have HB3 := hid (HB2.out.trans (RB.out.mono HB2.out.size))
              clear HA2 HBX2 HB2
              have q1 := HA3.out.q1
              obtain ⟨-, -, e1, -, -⟩ := HBX3.out
              obtain ⟨W3, rfl⟩ : ∃ W3, W3 = wr := ⟨_, rfl⟩
              by_cases hlt : k3 < t.nA
              · obtain ⟨b, off, hx, -, hbl, hc, hd⟩ := HA3.out.rM.at2 (k := p.nM + k3) (by omega)
                obtain ⟨b', off', hx', -, hbl', hc', hd'⟩ := HA3.out.rA.at2 hlt
                rw [hx] at q1
                rw [hx']
                clear hx hx'
                obtain ⟨m0, m1'⟩ := HP.out.M1 k3 hlt
                rw [m0] at hc
                rw [m1'] at hd
                clear m0 m1'
                have hi : (k3 : Int) < t.nA := by omega
                have hi2 : (p.nM : Int) + k3 < p.nM + t.nA := by omega
                have hi3 : 0 ≤ (p.nM : Int) + k3 := by omega
                have hwr : IntKind.i64.wrap ((p.nM : Int) + k3) = (p.nM : Int) + k3 := IntWalk.i64_in _ ⟨by omega, by omega⟩
                have htn : ((p.nM : Int) + k3).toNat = p.nM + k3 := by omega
                have hlP := HBX3.out.1
                have hlq := HA3.out.lt
                go_wp2_with fail
                go_region
                go_wp2_with fail
                go_quiet (fail)
                go_wp2_with fail
                go_roundw
                case rel =>
                  refine ⟨k3 + 1, by omega, by go_num, ?_⟩
                  first
                    | exact below_drewN ((RB.out.alloc (by exact RB.out.size) _).drew) _
                    | exact below_drewN (RB.out.alloc (by exact RB.out.size) _) _
                    | exact below_drewN ((RB.out.drew).alloc (by exact RB.out.size) _) _
                case measure => simp [intOf]; omega
              · have hi : ¬ (k3 : Int) < t.nA := by omega
                go_upto_region 25 with fail
                clear q1 e1 hi hlt RB
                have HN := hid (nil3 HP.out.nS)
                go_cut [177] from 164 to 177 (fun x wc => x = .bool false ∧ Hid (∃ m, wc = W3.drewN m))
                case first =>
                  have q2 := HA3.out.q2
                  obtain ⟨-, -, -, e2, -⟩ := HBX3.out
                  rcases HN.out with ⟨h1, h2⟩ | ⟨h1, h2, h3⟩ | ⟨h1, h2, h3⟩
                  all_goals
                    clear HN
                    go_quiet (fail)
                    go_wp2_with fail
                    go_meet
                    case rel => exact ⟨rfl, _, rfl⟩
                case rest =>
                  obtain ⟨rfl, m3, rfl⟩ := hcut
                  have q2 := HA3.out.q2
                  obtain ⟨-, -, -, e2, -⟩ := HBX3.out
                  go_wp2_with fail
                  go_quiet (fail)
                  go_wp2_with fail
                  clear q2 e2 HN
                  go_loopw [13] (fun i wr => ∃ k : Nat, k ≤ p.nS ∧ i = .int .i64 k ∧ Hid (Below W3.heap.size W3 wr)) (fun i _ => p.nS - (intOf i).toNat)
                  case atStart => exact ⟨0, Nat.zero_le _, rfl, below_drewN (below_drewN (Below.refl _ _) _) _⟩
                  case round =>
                    obtain ⟨k4, hk4, rfl, RB⟩ := hrel
                    have HA4 := hid (HA3.out.below RB.out)
                    have HBX4 := hid (HBX3.out.below RB.out)
                    have HB4 := hid (HB3.out.trans (RB.out.mono HB3.out.size))
                    clear HA3 HBX3 HB3
                    have q2 := HA4.out.q2
                    obtain ⟨-, -, -, e2, -⟩ := HBX4.out
                    obtain ⟨W4, rfl⟩ : ∃ W4, W4 = wr := ⟨_, rfl⟩
                    by_cases hlt : k4 < p.nS
                    · obtain ⟨b, off, hx, -, -, hc⟩ := HA4.out.rS.at1 (k := k4) (by omega)
                      obtain ⟨b', off', hx', -, -, hc'⟩ := HA4.out.rp.2.2.1.at1 hlt
                      rw [hx] at q2
                      rw [hx'] at e2
                      rw [HP.out.S0 k4 hlt] at hc
                      clear hx hx'
                      have hi : (k4 : Int) < p.nS := by omega
                      have hi2 : (k4 : Int) < p.nS + t.nB := by omega
                      go_wp2_with fail
                      go_quiet (fail)
                      go_wp2_with fail
                      go_roundw
                      case rel => exact ⟨k4 + 1, by omega, by go_num, below_drewN RB.out _⟩
                      case measure => simp [intOf]; omega
                    · have hi : ¬ (k4 : Int) < p.nS := by omega
                      go_wp2_with fail
                      clear q2 e2 hi hlt RB
                      go_loopw [14] (fun i wr => ∃ k : Nat, k ≤ t.nB ∧ i = .int .i64 k ∧ Hid (Below W4.heap.size W4 wr)) (fun i _ => t.nB - (intOf i).toNat)
                      case atStart => exact ⟨0, Nat.zero_le _, rfl, Below.refl _ _⟩
                      case round =>
                        obtain ⟨k5, hk5, rfl, RB⟩ := hrel
                        have HA5 := hid (HA4.out.below RB.out)
                        have HBX5 := hid (HBX4.out.below RB.out)
                        have HB5 := hid (HB4.out.trans (RB.out.mono HB4.out.size))
                        clear HA4 HBX4 HB4
                        have q2 := HA5.out.q2
                        obtain ⟨-, -, -, e2, -⟩ := HBX5.out
                        by_cases hlt : k5 < t.nB
                        · obtain ⟨b, off, hx, -, -, hc⟩ := HA5.out.rS.at1 (k := p.nS + k5) (by omega)
                          obtain ⟨b', off', hx', -, -, hc'⟩ := HA5.out.rB.at1 hlt
                          rw [hx] at q2
                          rw [hx']
                          rw [HP.out.S1 k5 hlt] at hc
                          clear hx hx'
                          have hi : (k5 : Int) < t.nB := by omega
                          have hi2 : (p.nS : Int) + k5 < p.nS + t.nB := by omega
                          have hi3 : 0 ≤ (p.nS : Int) + k5 := by omega
                          have hwr : IntKind.i64.wrap ((p.nS : Int) + k5) = (p.nS : Int) + k5 := IntWalk.i64_in _ ⟨by omega, by omega⟩
                          have htn : ((p.nS : Int) + k5).toNat = p.nS + k5 := by omega
                          go_wp2_with fail
                          go_quiet (fail)
                          go_wp2_with fail
                          go_roundw
                          case rel => exact ⟨k5 + 1, by omega, by go_num, below_drewN RB.out _⟩
                          case measure => simp [intOf]; omega
                        · have hi : ¬ (k5 : Int) < t.nB := by omega
                          go_wp2_with fail
                          go_ret
                          exact ⟨rfl, HB5.out⟩
end Go.Proofs.Qxb6603999a.Aft

import Derived.Test.Qxb6603999aSmall
import Derived.Test.Qxb6603999aTarget
namespace Go.Proofs.Qxb6603999a.Fit
open Go.RowKit Go.Proofs.Qxb6603999a.Common Go.Proofs.Qxb6603999a.Model Go.Proofs.Qxb6603999a.Target Go.Proofs.Qxb6603999a.Small

/-- A list of nodes as it lies in memory. -/
structure Nds where
  x : Option Addr
  n : Nat
  c : Nat
  id : Nat → ByteArray
  y : Nat → Option Addr
  m : Nat → Nat
  k : Nat → Nat
  s : Nat → Nat → ByteArray
def Nds.v (a : Nds) : Value := .slice a.x a.n a.c
def Nds.Reads (w : World) (B : Nat) (a : Nds) : Prop := RdN w B a.x a.n a.id a.y a.m a.k a.s
theorem Nds.Reads.below {w w' : World} {B : Nat} {a : Nds} (h : a.Reads w B) (hb : Below w.heap.size w w') : a.Reads w' B := RdN.below h hb
/-- a node, by its number -/
theorem Nds.Reads.at {w : World} {B : Nat} {a : Nds} (h : a.Reads w B) {k : Nat} (hk : k < a.n) :
    ∃ b off, a.x = some ⟨b, off, none⟩ ∧ b < w.heap.size ∧ w.cell? ⟨b, off + k * 2, none⟩ = some (.string (a.id k)) ∧ w.cell? ⟨b, off + k * 2 + 1, none⟩ = some (.slice (a.y k) (a.m k) (a.k k)) ∧ RdS w B (a.y k) (a.m k) (a.s k) := by
  obtain ⟨b, off, h1, _, h2, h3, h4⟩ := h.1.at2 hk
  exact ⟨b, off, h1, h2, h3, h4, h.2 k hk⟩

structure Prob where
  xD : Option Addr
  nD : Nat
  cD : Nat
  sD : Nat → ByteArray
  xM : Option Addr
  nM : Nat
  cM : Nat
  fM : Nat → ByteArray
  tM : Nat → ByteArray
  xS : Option Addr
  nS : Nat
  cS : Nat
  sS : Nat → ByteArray
  xC : Option Addr
  nC : Nat
  cC : Nat
  yC : Nat → Option Addr
  mC : Nat → Nat
  kC : Nat → Nat
  sC : Nat → Nat → ByteArray
def Prob.Reads (w : World) (B : Nat) (p : Prob) : Prop :=
  RdS w B p.xD p.nD p.sD ∧ RdE w B p.xM p.nM p.fM p.tM ∧ RdS w B p.xS p.nS p.sS ∧ RdC w B p.xC p.nC p.yC p.mC p.kC p.sC
theorem Prob.Reads.below {w w' : World} {B : Nat} {p : Prob} (h : p.Reads w B) (hb : Below w.heap.size w w') : p.Reads w' B := ⟨h.1.below hb, h.2.1.below hb, h.2.2.1.below hb, h.2.2.2.below hb⟩
def Prob.Fits (p : Prob) : Prop := p.nD ≤ 65536 ∧ p.nM ≤ 65536 ∧ p.nS ≤ 65536 ∧ p.nC ≤ 65536 ∧ ∀ k, k < p.nC → p.mC k ≤ 65536
def Nds.Fits (a : Nds) : Prop := a.n ≤ 65536 ∧ ∀ i, i < a.n → a.m i ≤ 4096

theorem upto {p : Nat → Prop} {k : Nat} (h : ∀ j, j < k → p j) (hk : p k) : ∀ j, j < k + 1 → p j := fun j hj => by
  by_cases e : j = k
  · subst e; exact hk
  · exact h j (by omega)

set_option maxRecDepth 100000 in
set_option maxHeartbeats 2000000 in
theorem f4_any (a : Nds) (p : Prob) (B : Nat) (w : World) (ha : a.Reads w B) (hp : p.Reads w B) :
    Calls Try.prog 4 #[.slice a.x a.n a.c, .agg #[.slice p.xD p.nD p.cD, .slice p.xM p.nM p.cM, .slice p.xS p.nS p.cS, .slice p.xC p.nC p.cC]] w fun e w' => AnyB w (fun b => b = true → a.Fits ∧ p.Fits) e w' := by
  have hbox : Below w.heap.size w (w.alloc (.cells #[.slice p.xD p.nD p.cD, .slice p.xM p.nM p.cM, .slice p.xS p.nS p.cS, .slice p.xC p.nC p.cC] 28)) := (Below.refl _ _).alloc (Nat.le_refl _) _
  have HA := hid (ha.below hbox)
  have HP := hid (hp.below hbox)
  have HB := hid hbox
  clear ha hp hbox
  have NO : Hid (AnyB w (fun b => b = true → a.Fits ∧ p.Fits) (.returned (.bool false)) (w.alloc (.cells #[.slice p.xD p.nD p.cD, .slice p.xM p.nM p.cM, .slice p.xS p.nS p.cS, .slice p.xC p.nC p.cC] 28))) := AnyB.of false HB.out (fun h => by cases h)
  by_cases hn : (1048576 : Int) < a.n
  · go_enter Try.func4, Try.ntmps4
    go_wp2_with fail
    go_ret
    exact NO.out
  · by_cases hn2 : (1048576 : Int) < 40 * a.n
    · go_enter Try.func4, Try.ntmps4
      go_wp2_with fail
      go_ret
      exact NO.out
    · go_enter Try.func4, Try.ntmps4
      go_wp2_with fail
      go_loop [5, 7] (fun t i => ∃ (k : Nat) (tv : Int), k ≤ a.n ∧ i = .int .i64 k ∧ t = .int .i64 tv ∧ 0 ≤ tv ∧ tv ≤ 1048576 ∧ Hid (∀ j, j < k → a.m j ≤ 4096)) (fun _ i => a.n - (intOf i).toNat)
      case atStart => exact ⟨0, 40 * a.n, Nat.zero_le _, rfl, rfl, by omega, by omega, (fun j hj => by omega)⟩
      case round =>
        obtain ⟨k, tv, hk, rfl, rfl, ht0, ht1, HM⟩ := hrel
        by_cases hlt : k < a.n
        · obtain ⟨b, off, hx, hb, hc0, hc1, hs⟩ := HA.out.at hlt
          have HSS := hid hs
          clear hs
          rw [hx]
          have hik : (k : Int) < a.n := by omega
          by_cases l1 : (4096 : Int) < a.m k
          · go_wp2_with fail
            go_ret
            exact NO.out
          · by_cases l2 : (1048576 : Int) < (a.id k).size
            · go_wp2_with fail
              go_ret
              exact NO.out
            · go_wp2_with fail
              refine (f16_any (a.y k) (a.m k) (a.k k) B (a.s k) _ _ HSS.out (by omega) (by omega)).mono ?_
              rintro e w' ⟨t2, b2, rfl, hw', hb2⟩
              obtain rfl := hw'.symm
              clear hw'
              cases b2
              · clear hb2
                go_wp2_with fail
                go_ret
                exact NO.out
              · obtain ⟨q1, q2, -⟩ := hb2 rfl
                clear hb2
                go_wp2_with fail
                go_round
                case rel => exact ⟨k + 1, t2, by omega, by go_num, rfl, q1, q2, upto HM.out (by omega)⟩
                case measure => simp [intOf]; omega
        · have HFa : Hid a.Fits := ⟨by omega, fun i hi => HM.out i (by omega)⟩
          clear HM
          go_wp2_with fail
          refine (f16_any p.xD p.nD p.cD B p.sD _ _ HP.out.1 (by omega) (by omega)).mono ?_
          rintro e w' ⟨t2, b2, rfl, hw', hb2⟩
          obtain rfl := hw'.symm
          clear hw'
          cases b2
          · clear hb2
            go_wp2_with fail
            go_ret
            exact NO.out
          obtain ⟨q1, q2, q3⟩ := hb2 rfl
          clear hb2
          by_cases l1 : (1048576 : Int) < p.nM
          · go_wp2_with fail
            go_ret
            exact NO.out
          by_cases l2 : (1048576 : Int) < t2 + 32 * p.nM
          · go_wp2_with fail
            go_ret
            exact NO.out
          go_wp2_with fail
          go_loop [5, 8] (fun t i => ∃ (k : Nat) (tv : Int), k ≤ p.nM ∧ i = .int .i64 k ∧ t = .int .i64 tv ∧ 0 ≤ tv ∧ tv ≤ 1048576) (fun _ i => p.nM - (intOf i).toNat)
          case atStart => exact ⟨0, t2 + 32 * p.nM, Nat.zero_le _, rfl, rfl, by omega, by omega⟩
          case round =>
            obtain ⟨k2, tv2, hk2, rfl, rfl, ht20, ht21⟩ := hrel
            by_cases hlt2 : k2 < p.nM
            · obtain ⟨b, off, hx, -, hb, hc0, hc1⟩ := HP.out.2.1.at2 hlt2
              have hik2 : (k2 : Int) < p.nM := by omega
              rw [hx] at hc0 hc1 NO ⊢
              by_cases m1 : (1048576 : Int) < (p.fM k2).size
              · go_wp2_with fail
                go_ret
                exact NO.out
              · by_cases m2 : (1048576 : Int) < (p.tM k2).size
                · go_wp2_with fail
                  go_ret
                  exact NO.out
                · by_cases m3 : (1048576 : Int) < tv2 + (p.fM k2).size + (p.tM k2).size
                  · go_wp2_with fail
                    go_ret
                    exact NO.out
                  · go_wp2_with fail
                    go_round
                    case rel => exact ⟨k2 + 1, _, by omega, by go_num, rfl, by omega, by omega⟩
                    case measure => simp [intOf]; omega
            · go_wp2_with fail
              refine (f16_any p.xS p.nS p.cS B p.sS _ _ HP.out.2.2.1 (by omega) (by omega)).mono ?_
              rintro e w' ⟨t3, b3, rfl, hw', hb3⟩
              obtain rfl := hw'.symm
              clear hw'
              cases b3
              · clear hb3
                go_wp2_with fail
                go_ret
                exact NO.out
              obtain ⟨q4, q5, q6⟩ := hb3 rfl
              clear hb3
              by_cases l3 : (1048576 : Int) < p.nC
              · go_wp2_with fail
                go_ret
                exact NO.out
              by_cases l4 : (1048576 : Int) < t3 + 24 * p.nC
              · go_wp2_with fail
                go_ret
                exact NO.out
              go_wp2_with fail
              go_loop [5, 9] (fun t i => ∃ (k : Nat) (tv : Int), k ≤ p.nC ∧ i = .int .i64 k ∧ t = .int .i64 tv ∧ 0 ≤ tv ∧ tv ≤ 1048576 ∧ Hid (∀ j, j < k → p.mC j ≤ 65536)) (fun _ i => p.nC - (intOf i).toNat)
              case atStart => exact ⟨0, t3 + 24 * p.nC, Nat.zero_le _, rfl, rfl, by omega, by omega, (fun j hj => by omega)⟩
              case round =>
                obtain ⟨k3, tv3, hk3, rfl, rfl, ht30, ht31, HM3⟩ := hrel
                by_cases hlt3 : k3 < p.nC
                · obtain ⟨b, off, hx, -, hb, hc0⟩ := HP.out.2.2.2.1.at1 hlt3
                  have hik3 : (k3 : Int) < p.nC := by omega
                  have HC3 := hid (HP.out.2.2.2.2 k3 hlt3)
                  rw [hx] at hc0 NO HC3 ⊢
                  go_wp2_with fail
                  refine (f16_any (p.yC k3) (p.mC k3) (p.kC k3) B (p.sC k3) _ _ HC3.out (by omega) (by omega)).mono ?_
                  rintro e w' ⟨t4, b4, rfl, hw', hb4⟩
                  obtain rfl := hw'.symm
                  clear hw'
                  cases b4
                  · clear hb4
                    go_wp2_with fail
                    go_ret
                    exact NO.out
                  obtain ⟨q7, q8, q9⟩ := hb4 rfl
                  clear hb4
                  go_wp2_with fail
                  go_round
                  case rel => exact ⟨k3 + 1, t4, by omega, by go_num, rfl, q7, q8, upto HM3.out q9⟩
                  case measure => simp [intOf]; omega
                · go_wp2_with fail
                  go_ret
                  exact AnyB.of true HB.out fun _ => ⟨HFa.out, q3, by omega, q6, by omega, fun k hk => HM3.out k (by omega)⟩
end Go.Proofs.Qxb6603999a.Fit

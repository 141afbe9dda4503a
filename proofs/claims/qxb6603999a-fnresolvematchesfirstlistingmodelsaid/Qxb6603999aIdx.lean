import Derived.Test.Qxb6603999aFit
namespace Go.Proofs.Qxb6603999a.IdxFits
open Go.RowKit Go.Proofs.Qxb6603999a.Common Go.Proofs.Qxb6603999a.Model Go.Proofs.Qxb6603999a.Target Go.Proofs.Qxb6603999a.Small Go.Proofs.Qxb6603999a.Fit

/-- every target of node i's first k ids lies among the nodes -/
def InR (a : Nds) (ok : ByteArray → Bool) (val : ByteArray → Int) (i k : Nat) : Prop := ∀ j, j < k → a.s i j ≠ a.id i → ok (a.s i j) = true → 0 ≤ val (a.s i j) ∧ val (a.s i j) < a.n

set_option maxRecDepth 100000 in
set_option maxHeartbeats 1000000 in
theorem f5_any (a : Nds) (B : Nat) (mv : Value) (ok : ByteArray → Bool) (val : ByteArray → Int) (w : World) (ha : a.Reads w B) (hf : a.Fits) (hi : Idx w mv ok val) (hs : ∀ i j, (a.s i j).size ≤ maxLen) :
    Calls Try.prog 5 #[.slice a.x a.n a.c, mv] w fun e w' => AnyB w (fun b => b = true → ∀ i, i < a.n → InR a ok val i (a.m i)) e w' := by
  have HA := hid ha
  have HI := hid hi
  have HSZ := hid hs
  have hn := hf.1
  have HFm := hid hf.2
  clear ha hi hs hf
  have NO : Hid (AnyB w (fun b => b = true → ∀ i, i < a.n → InR a ok val i (a.m i)) (.returned (.bool false)) w) := AnyB.of false (Below.refl _ _) (fun h => by cases h)
  go_enter Try.func5, Try.ntmps5
  go_wp2_with fail
  go_loop [5] (fun i => ∃ k : Nat, k ≤ a.n ∧ i = .int .i64 k ∧ Hid (∀ i', i' < k → InR a ok val i' (a.m i'))) (fun i => a.n - (intOf i).toNat)
  case atStart => exact ⟨0, Nat.zero_le _, rfl, fun j hj => by omega⟩
  case round =>
    obtain ⟨i, hk, rfl, HR⟩ := hrel
    by_cases hlt : i < a.n
    · have hik : (i : Int) < a.n := by omega
      go_wp2_with fail
      go_loop [6] (fun t => ∃ k : Nat, k ≤ a.m i ∧ t = .int .i64 k ∧ Hid (InR a ok val i k)) (fun t => a.m i - (intOf t).toNat)
      case atStart => exact ⟨0, Nat.zero_le _, rfl, fun j hj => by omega⟩
      case round =>
        obtain ⟨k, hkm, rfl, HK⟩ := hrel
        have hm4 := HFm.out i hlt
        obtain ⟨b, off, hx, hb, hc0, hc1, hs⟩ := HA.out.at hlt
        rw [hx]
        by_cases hlk : k < a.m i
        · obtain ⟨b', off', hy, -, -, hcs⟩ := hs.at1 hlk
          rw [hy] at hc1
          have hrun := hid (HI.out w (Below.refl _ _) (a.s i k) (HSZ.out i k))
          have hikm : (k : Int) < a.m i := by omega
          clear hs
          by_cases he : a.s i k = a.id i
          · have he' : ((a.s i k).toList == (a.id i).toList) = true := by rw [eqs]; simpa using he
            have HK' : Hid (InR a ok val i (k + 1)) := upto HK.out (fun h => absurd he h)
            clear he
            go_wp2_with fail
            go_round
            case rel => exact ⟨k + 1, by omega, by go_num, HK'⟩
            case measure => simp [intOf]; omega
          · have he' : ((a.s i k).toList == (a.id i).toList) = false := by rw [eqs]; simpa using he
            cases hok : ok (a.s i k) with
            | false =>
              rw [hok] at hrun
              have HK' : Hid (InR a ok val i (k + 1)) := upto HK.out (fun _ h => by rw [hok] at h; cases h)
              clear he hok
              go_wp2_with (at_lookup; refine wpList_lookup_run _ rfl (.tmp 42) (.tmp 43) 23 true rfl _ _ _ rfl rfl hrun.out ?_)
              go_round
              case rel => exact ⟨k + 1, by omega, by go_num, HK'⟩
              case measure => simp [intOf]; omega
            | true =>
              rw [hok] at hrun
              by_cases v1 : val (a.s i k) < 0
              · clear he hok
                go_wp2_with (at_lookup; refine wpList_lookup_run _ rfl (.tmp 42) (.tmp 43) 23 true rfl _ _ _ rfl rfl hrun.out ?_)
                go_ret
                exact NO.out
              · by_cases v2 : (a.n : Int) ≤ val (a.s i k)
                · clear he hok
                  go_wp2_with (at_lookup; refine wpList_lookup_run _ rfl (.tmp 42) (.tmp 43) 23 true rfl _ _ _ rfl rfl hrun.out ?_)
                  go_ret
                  exact NO.out
                · have HK' : Hid (InR a ok val i (k + 1)) := upto HK.out (fun _ _ => by omega)
                  clear he hok
                  go_wp2_with (at_lookup; refine wpList_lookup_run _ rfl (.tmp 42) (.tmp 43) 23 true rfl _ _ _ rfl rfl hrun.out ?_)
                  go_round
                  case rel => exact ⟨k + 1, by omega, by go_num, HK'⟩
                  case measure => simp [intOf]; omega
        · have hkm' : k = a.m i := by omega
          subst hkm'
          clear hs
          go_wp2_with fail
          go_round
          case rel => exact ⟨i + 1, by omega, by go_num, upto HR.out HK.out⟩
          case measure => simp [intOf]; omega
    · go_wp2_with fail
      go_ret
      exact AnyB.of true (Below.refl _ _) fun _ i hi => HR.out i (by omega)
end Go.Proofs.Qxb6603999a.IdxFits

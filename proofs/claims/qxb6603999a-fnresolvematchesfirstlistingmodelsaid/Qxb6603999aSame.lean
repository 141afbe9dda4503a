import Derived.Test.Qxb6603999aCommon
namespace Go.Proofs.Qxb6603999a.Same
open Go.RowKit Go.Proofs.Qxb6603999a.Common

set_option maxHeartbeats 400000 in
theorem f11_any (x y : Option Addr) (n c d B B' : Nat) (z : Nat → Int) (w : World) (h : RdI w B x n z) (h' : RdI w B' y n z) (hn : x.isNone = y.isNone) (hs : n ≤ 1073741824) :
    Calls Try.prog 11 #[.slice x n c, .slice y n d] w fun e w' => e = .returned (.bool true) ∧ Below w.heap.size w w' := by
  have q := eqnil 39 3 Try.underlying39
  have HX := hid h
  have HY := hid h'
  clear h h'
  have hg : (x.isNone != y.isNone) = false := by rw [hn]; simp
  have HN := hid hn
  clear hn
  go_enter Try.func11, Try.ntmps11
  go_wp2
  go_loopw [5] (fun i wr => ∃ k : Nat, k ≤ n ∧ i = .int .i64 k ∧ Below w.heap.size w wr) (fun i _ => n - (intOf i).toNat)
  case atStart => exact ⟨0, Nat.zero_le _, rfl, Below.refl _ _⟩
  case round =>
    obtain ⟨k, hk, rfl, hbel⟩ := hrel
    by_cases hlt : k < n
    · obtain ⟨b, off, hx, -, -, hc⟩ := (HX.out.below hbel).at1 hlt
      obtain ⟨b', off', hy, -, -, hc'⟩ := (HY.out.below hbel).at1 hlt
      subst hx hy
      have hi : (k : Int) < n := by omega
      go_wp2_with fail
      go_quiet (fail)
      go_wp2
      go_roundw
      case rel => exact ⟨k + 1, by omega, by go_num, below_drewN hbel _⟩
      case measure => simp [intOf]; omega
    · go_wp2
      go_ret
      exact ⟨rfl, hbel⟩

set_option maxHeartbeats 400000 in
theorem f20_any (x y : Option Addr) (n c d B B' : Nat) (z : Nat → ByteArray) (w : World) (h : RdS w B x n z) (h' : RdS w B' y n z) (hn : x.isNone = y.isNone) (hs : n ≤ 1073741824) :
    Calls Try.prog 20 #[.slice x n c, .slice y n d] w fun e w' => e = .returned (.bool true) ∧ Below w.heap.size w w' := by
  have q := eqnil 24 9 Try.underlying24
  have HX := hid h
  have HY := hid h'
  clear h h'
  have hg : (x.isNone != y.isNone) = false := by rw [hn]; simp
  have HN := hid hn
  clear hn
  go_enter Try.func20, Try.ntmps20
  go_wp2
  go_loopw [5] (fun i wr => ∃ k : Nat, k ≤ n ∧ i = .int .i64 k ∧ Below w.heap.size w wr) (fun i _ => n - (intOf i).toNat)
  case atStart => exact ⟨0, Nat.zero_le _, rfl, Below.refl _ _⟩
  case round =>
    obtain ⟨k, hk, rfl, hbel⟩ := hrel
    by_cases hlt : k < n
    · obtain ⟨b, off, hx, -, -, hc⟩ := (HX.out.below hbel).at1 hlt
      obtain ⟨b', off', hy, -, -, hc'⟩ := (HY.out.below hbel).at1 hlt
      subst hx hy
      have hi : (k : Int) < n := by omega
      go_wp2_with fail
      go_quiet (fail)
      go_wp2
      go_roundw
      case rel => exact ⟨k + 1, by omega, by go_num, below_drewN hbel _⟩
      case measure => simp [intOf]; omega
    · go_wp2
      go_ret
      exact ⟨rfl, hbel⟩

set_option maxHeartbeats 400000 in
theorem f14_yes (x : Option Addr) (n c B : Nat) (z : Nat → Int) (v : Int) (w : World) (h : RdI w B x n z) (hv : ∃ j, j < n ∧ z j = v) (hs : n ≤ 1073741824) :
    Calls Try.prog 14 #[.slice x n c, .int .i64 v] w fun e w' => e = .returned (.bool true) ∧ w' = w := by
  have HX := hid h
  have HV := hid hv
  clear h hv
  go_enter Try.func14, Try.ntmps14
  go_wp2
  go_loop [5] (fun i => ∃ k : Nat, k ≤ n ∧ i = .int .i64 k ∧ Hid (∀ j, j < k → z j ≠ v)) (fun i => n - (intOf i).toNat)
  case atStart => exact ⟨0, Nat.zero_le _, rfl, fun j hj => by omega⟩
  case round =>
    obtain ⟨k, hk, rfl, HK⟩ := hrel
    by_cases hlt : k < n
    · obtain ⟨b, off, hx, -, -, hc⟩ := HX.out.at1 hlt
      subst hx
      by_cases he : z k = v
      · have he' : (z k == v) = true := by simpa using he
        clear he
        go_wp2
        go_ret
        exact ⟨rfl, rfl⟩
      · have he' : (z k == v) = false := by simpa using he
        have HE := hid he
        clear he
        go_wp2
        go_round
        case rel => exact ⟨k + 1, by omega, by go_num, fun j hj => by by_cases e : j = k; (subst e; exact HE.out); exact HK.out j (by omega)⟩
        case measure => simp [intOf]; omega
    · obtain ⟨j, hj, hjv⟩ := HV.out
      exact absurd hjv (HK.out j (by omega))
end Go.Proofs.Qxb6603999a.Same

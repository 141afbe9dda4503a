import Derived.Test.Qxb6603999aCommon
namespace Go.Proofs.Qxb6603999a.SameQ
open Go.RowKit Go.Proofs.Qxb6603999a.Common

set_option maxHeartbeats 400000 in
theorem f11_q (x y : Option Addr) (n c d B B' : Nat) (z : Nat → Int) (w : World) (h : RdI w B x n z) (h' : RdI w B' y n z) (hn : x.isNone = y.isNone) (hs : n ≤ 1073741824) :
    Calls Try.prog 11 #[.slice x n c, .slice y n d] w fun e w' => e = .returned (.bool true) ∧ ∃ m, w' = w.drewN m := by
  have q := eqnil 39 3 Try.underlying39
  have HX := hid h
  have HY := hid h'
  clear h h'
  have hg : (x.isNone != y.isNone) = false := by rw [hn]; simp
  have HN := hid hn
  clear hn
  go_enter Try.func11, Try.ntmps11
  go_wp2
  go_loopw [5] (fun i wr => ∃ k : Nat, k ≤ n ∧ i = .int .i64 k ∧ ∃ m, wr = w.drewN m) (fun i _ => n - (intOf i).toNat)
  case atStart => exact ⟨0, Nat.zero_le _, rfl, 0, rfl⟩
  case round =>
    obtain ⟨k, hk, rfl, m, rfl⟩ := hrel
    by_cases hlt : k < n
    · obtain ⟨b, off, hx, -, -, hc⟩ := HX.out.at1 hlt
      obtain ⟨b', off', hy, -, -, hc'⟩ := HY.out.at1 hlt
      subst hx hy
      have hi : (k : Int) < n := by omega
      go_wp2_with fail
      go_quiet (fail)
      go_wp2
      go_roundw
      case rel => exact ⟨k + 1, by omega, by go_num, _, rfl⟩
      case measure => simp [intOf]; omega
    · go_wp2
      go_ret
      exact ⟨rfl, m, rfl⟩

set_option maxHeartbeats 400000 in
theorem f20_q (x y : Option Addr) (n c d B B' : Nat) (z : Nat → ByteArray) (w : World) (h : RdS w B x n z) (h' : RdS w B' y n z) (hn : x.isNone = y.isNone) (hs : n ≤ 1073741824) :
    Calls Try.prog 20 #[.slice x n c, .slice y n d] w fun e w' => e = .returned (.bool true) ∧ ∃ m, w' = w.drewN m := by
  have q := eqnil 24 9 Try.underlying24
  have HX := hid h
  have HY := hid h'
  clear h h'
  have hg : (x.isNone != y.isNone) = false := by rw [hn]; simp
  have HN := hid hn
  clear hn
  go_enter Try.func20, Try.ntmps20
  go_wp2
  go_loopw [5] (fun i wr => ∃ k : Nat, k ≤ n ∧ i = .int .i64 k ∧ ∃ m, wr = w.drewN m) (fun i _ => n - (intOf i).toNat)
  case atStart => exact ⟨0, Nat.zero_le _, rfl, 0, rfl⟩
  case round =>
    obtain ⟨k, hk, rfl, m, rfl⟩ := hrel
    by_cases hlt : k < n
    · obtain ⟨b, off, hx, -, -, hc⟩ := HX.out.at1 hlt
      obtain ⟨b', off', hy, -, -, hc'⟩ := HY.out.at1 hlt
      subst hx hy
      have hi : (k : Int) < n := by omega
      go_wp2_with fail
      go_quiet (fail)
      go_wp2
      go_roundw
      case rel => exact ⟨k + 1, by omega, by go_num, _, rfl⟩
      case measure => simp [intOf]; omega
    · go_wp2
      go_ret
      exact ⟨rfl, m, rfl⟩
end Go.Proofs.Qxb6603999a.SameQ

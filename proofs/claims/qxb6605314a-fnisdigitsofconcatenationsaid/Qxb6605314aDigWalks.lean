import Derived.Test.Qxb6605314aRows
import Derived.Test.Qxb6605314aDigPlain
import Derived.WalkKit
import Derived.OwnWalk
import Derived.Outline
namespace Go.Proofs.Qxb6605314a.DigWalks
open Go.RowKit Go.Proofs.Qxb6605314a.Dig

theorem ret_bool {a b : Bool} (h : a = b) : Ending.returned (.bool a) = .returned (.bool b) := by rw [h]
theorem ret_int {k : IntKind} {a b : Int} (h : a = b) : Ending.returned (.int k a) = .returned (.int k b) := by rw [h]

set_option maxHeartbeats 400000 in
theorem f19_any (s : ByteArray) (w : World) (hs : s.size ≤ maxLen) :
    Calls Try.prog 19 #[.string s] w fun e w' => e = .returned (.bool (allD s.data.toList)) ∧ w' = w := by
  unfold maxLen at hs
  go_enter Try.func19, Try.ntmps19
  go_wp2
  go_loop [6] (fun i => ∃ k : Nat, k ≤ s.size ∧ i = .int .i64 k ∧ Hid (allD (s.data.toList.take k) = true)) (fun i => s.size - (intOf i).toNat)
  case atStart => exact ⟨0, Nat.zero_le _, rfl, rfl⟩
  case round =>
    obtain ⟨k, hk, rfl, HA⟩ := hrel
    by_cases hlt : k < s.size
    · have HS : Hid (s.data.toList.take (k + 1) = s.data.toList.take k ++ [s[k]]) := take_snoc s k hlt
      go_wp2
      · go_ret
        exact ⟨ret_bool (allD_false hlt (isD_hi (by omega))).symm, rfl⟩
      · go_round
        case rel => exact ⟨k + 1, by omega, by go_num, by unfold Hid; rw [HS.out, allD_snoc, HA.out]; exact isD_true (by omega) (by omega)⟩
        case measure => simp [intOf]; omega
      · go_ret
        exact ⟨ret_bool (allD_false hlt (isD_lo (by omega))).symm, rfl⟩
    · go_wp2
      go_ret
      exact ⟨ret_bool (by have := HA.out; rw [List.take_of_length_le (by simp; omega)] at this; exact this.symm), rfl⟩

theorem digs_at (k : Nat) (hk : k < 10) : ∀ h, ((({ data := #[48, 49, 50, 51, 52, 53, 54, 55, 56, 57] } : ByteArray)[k]'h).toNat : Int) = 48 + (k : Int) :=
  match k, hk with
  | 0, _ => fun _ => rfl
  | 1, _ => fun _ => rfl
  | 2, _ => fun _ => rfl
  | 3, _ => fun _ => rfl
  | 4, _ => fun _ => rfl
  | 5, _ => fun _ => rfl
  | 6, _ => fun _ => rfl
  | 7, _ => fun _ => rfl
  | 8, _ => fun _ => rfl
  | 9, _ => fun _ => rfl

set_option maxHeartbeats 400000 in
theorem f20_any (c : Int) (w : World) (h0 : 0 ≤ c) (h1 : c ≤ 255) :
    Calls Try.prog 20 #[.int .u8 c] w fun e w' => e = .returned (.bool (isD c)) ∧ w' = w := by
  go_enter Try.func20, Try.ntmps20
  go_wp2
  go_loop [3] (fun i => ∃ k : Nat, k ≤ 10 ∧ i = .int .i64 k ∧ Hid (c < 48 ∨ 48 + (k : Int) ≤ c)) (fun i => 10 - (intOf i).toNat)
  case atStart => exact ⟨0, Nat.zero_le _, rfl, (by unfold Hid; omega)⟩
  case round =>
    obtain ⟨k, hk, rfl, HA⟩ := hrel
    by_cases hlt : k < 10
    · have HD : Hid (∀ h, ((({ data := #[48, 49, 50, 51, 52, 53, 54, 55, 56, 57] } : ByteArray)[k]'h).toNat : Int) = 48 + (k : Int)) := digs_at k hlt
      go_wp2
      · have e := eq_of_beq ‹(_ == c) = true›
        rw [HD.out] at e
        go_ret
        exact ⟨ret_bool (isD_true (by omega) (by omega)).symm, rfl⟩
      · have e := ne_of_beq_false ‹(_ == c) = false›
        rw [HD.out] at e
        go_round
        case rel => exact ⟨k + 1, by omega, by go_num, by have := HA.out; unfold Hid; omega⟩
        case measure => simp [intOf]; omega
    · go_wp2
      go_ret
      have := HA.out
      exact ⟨ret_bool (by rcases this with h | h; exact (isD_lo h).symm; exact (isD_hi (by omega)).symm), rfl⟩

theorem f13_any (s : ByteArray) (w : World) (hs : s.size ≤ maxLen) :
    Calls Try.prog 13 #[.string s] w fun e w' => e = .returned (.bool (allD s.data.toList)) ∧ w' = w := by
  go_enter Try.func13, Try.ntmps13
  go_wp2_with (go_at_call 19; refine (f19_any _ _ hs).mono ?_; rintro e w' ⟨rfl, rfl⟩)
  go_ret
  exact ⟨rfl, rfl⟩

set_option maxHeartbeats 400000 in
theorem f14_any (s : ByteArray) (w : World) (hs : s.size ≤ maxLen) :
    Calls Try.prog 14 #[.string s] w fun e w' => e = .returned (.int .i64 (cnt s.data.toList)) ∧ w' = w := by
  unfold maxLen at hs
  go_enter Try.func14, Try.ntmps14
  go_wp2
  go_loop [3, 4] (fun n i => ∃ k : Nat, k ≤ s.size ∧ i = .int .i64 k ∧ n = .int .i64 (cnt (s.data.toList.take k))) (fun _ i => s.size - (intOf i).toNat)
  case atStart => exact ⟨0, Nat.zero_le _, rfl, rfl⟩
  case round =>
    obtain ⟨k, hk, rfl, rfl⟩ := hrel
    have hd := cnt_bd (s.data.toList.take k)
    have hl : (s.data.toList.take k).length ≤ k := List.length_take_le _ _
    by_cases hlt : k < s.size
    · have HS : Hid (cnt (s.data.toList.take (k + 1)) = cnt (s.data.toList.take k) + if isDB s[k] = true then 1 else 0) := by
        unfold Hid; rw [take_snoc s k hlt, cnt_snoc]
      have hb : s[k].toNat < 256 := s[k].toNat_lt
      by_cases hc : isDB s[k] = true
      · have HC : Hid (isDB s[k] = true) := hc
        have hi : isD (s[k].toNat : Int) = true := hc
        clear hc
        go_wp2_with (go_at_call 20; refine (f20_any _ _ (by omega) (by omega)).mono ?_; rintro e w' ⟨rfl, rfl⟩)
        go_round
        case rel => exact ⟨k + 1, by omega, by go_num, by rw [HS.out, if_pos HC.out]⟩
        case measure => simp [intOf]; omega
      · have HC : Hid (¬ isDB s[k] = true) := hc
        have hi : isD (s[k].toNat : Int) = false := by simpa [isDB] using hc
        clear hc
        go_wp2_with (go_at_call 20; refine (f20_any _ _ (by omega) (by omega)).mono ?_; rintro e w' ⟨rfl, rfl⟩)
        go_round
        case rel => exact ⟨k + 1, by omega, by go_num, by rw [HS.out, if_neg HC.out]; go_num⟩
        case measure => simp [intOf]; omega
    · go_wp2
      go_ret
      exact ⟨ret_int (by rw [List.take_of_length_le (by simp; omega)]), rfl⟩

theorem f12_no (s : ByteArray) (w : World) (h : (1048576 : Int) < s.size) :
    Calls Try.prog 12 #[.string s] w fun e w' => e = .returned (.bool false) ∧ w' = w := by
  go_enter Try.func12, Try.ntmps12
  go_wp2
  go_ret
  exact ⟨rfl, rfl⟩
theorem f12_yes (s : ByteArray) (w : World) (h : (s.size : Int) ≤ 1048576) :
    Calls Try.prog 12 #[.string s] w fun e w' => e = .returned (.bool true) ∧ w' = w := by
  go_enter Try.func12, Try.ntmps12
  go_wp2
  go_ret
  exact ⟨rfl, rfl⟩
theorem f15_yes (s t : ByteArray) (w : World) (h : (s.size : Int) + t.size ≤ 1048576) :
    Calls Try.prog 15 #[.string s, .string t] w fun e w' => e = .returned (.bool true) ∧ w' = w := by
  go_enter Try.func15, Try.ntmps15
  go_wp2
  go_ret
  exact ⟨rfl, rfl⟩
theorem f15_no (s t : ByteArray) (w : World) (h : (1048576 : Int) < (s.size : Int) + t.size) (hs : s.size ≤ maxLen) (ht : t.size ≤ maxLen) :
    Calls Try.prog 15 #[.string s, .string t] w fun e w' => e = .returned (.bool false) ∧ w' = w := by
  unfold maxLen at hs ht
  by_cases h1 : (1048576 : Int) < s.size
  · go_enter Try.func15, Try.ntmps15
    go_wp2
    go_ret
    exact ⟨rfl, rfl⟩
  · by_cases h2 : (1048576 : Int) < t.size
    · go_enter Try.func15, Try.ntmps15
      go_wp2
      go_ret
      exact ⟨rfl, rfl⟩
    · go_enter Try.func15, Try.ntmps15
      go_wp2
      go_ret
      exact ⟨rfl, rfl⟩
end Go.Proofs.Qxb6605314a.DigWalks

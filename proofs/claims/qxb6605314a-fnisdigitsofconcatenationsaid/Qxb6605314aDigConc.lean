import Derived.Test.Qxb6605314aDigWalks
namespace Go.Proofs.Qxb6605314a.DigConc
open Go.RowKit Go.Proofs.Qxb6605314a.Dig
set_option maxHeartbeats 400000 in
theorem walk5 (a0 : ByteArray) (a1 : ByteArray) (w0 : a0.size ≤ maxLen) (w1 : a1.size ≤ maxLen) (w : World) :
    Calls Try.prog 5 #[.string a0, .string a1] w fun e w' => e = .returned (.bool true) ∧ Grown w w' := by
  have w0' : a0.size ≤ maxLen := w0
  have w1' : a1.size ≤ maxLen := w1
  unfold maxLen at w0' w1'
  by_cases h : (1048576 : Int) < (a0.size : Int) + a1.size
  · go_enter Try.func5, Try.ntmps5
    go_wp2_with (go_at_call 15; refine (DigWalks.f15_no _ _ _ h w0 w1).mono ?_; rintro e w' ⟨rfl, rfl⟩)
    go_ret
    exact ⟨rfl, by repeat (first | exact Grown.refl _ | apply Grown.drew | apply Grown.alloc)⟩
  · have h' : (a0.size : Int) + a1.size ≤ 1048576 := by omega
    have w2 : (a0 ++ a1).size ≤ maxLen := by unfold maxLen; rw [ByteArray.size_append]; omega
    have hAB : allD (a0 ++ a1).data.toList = (allD a0.data.toList && allD a1.data.toList) := by
      rw [← allD_append]
      simp
    have hA : (cnt a0.data.toList == (a0.size : Int)) = allD a0.data.toList := by
      have := cnt_all a0.data.toList
      simpa using this
    have hB : (cnt a1.data.toList == (a1.size : Int)) = allD a1.data.toList := by
      have := cnt_all a1.data.toList
      simpa using this
    have c0 : ∀ w, Calls Try.prog 13 #[.string a0] w fun e w' => e = .returned (.bool (allD a0.data.toList)) ∧ w' = w := fun w => DigWalks.f13_any _ _ w0
    have c1 : ∀ w, Calls Try.prog 13 #[.string a1] w fun e w' => e = .returned (.bool (allD a1.data.toList)) ∧ w' = w := fun w => DigWalks.f13_any _ _ w1
    have c2 : ∀ w, Calls Try.prog 13 #[.string (a0 ++ a1)] w fun e w' => e = .returned (.bool (allD a0.data.toList && allD a1.data.toList)) ∧ w' = w := fun w => by
      rw [← hAB]; exact DigWalks.f13_any _ _ w2
    clear hAB
    generalize allD a0.data.toList = da at hA c0 c2
    generalize allD a1.data.toList = db at hB c1 c2
    have C0 : Hid _ := c0
    have C1 : Hid _ := c1
    have C2 : Hid _ := c2
    clear c0 c1 c2
    cases da <;> cases db
    all_goals
      go_enter Try.func5, Try.ntmps5
      go_wp2_with fail
      refine (DigWalks.f15_yes _ _ _ h').mono ?_; rintro e w' ⟨rfl, rfl⟩
      go_wp2_with fail
      refine (C0.out _).mono ?_; rintro e w' ⟨rfl, rfl⟩
      go_wp2_with fail
      refine (C1.out _).mono ?_; rintro e w' ⟨rfl, rfl⟩
      go_wp2_with fail
      refine (DigWalks.f14_any _ _ w0).mono ?_; rintro e w' ⟨rfl, rfl⟩
      go_wp2_with fail
      refine (DigWalks.f14_any _ _ w1).mono ?_; rintro e w' ⟨rfl, rfl⟩
      go_wp2_with fail
      refine (C2.out _).mono ?_; rintro e w' ⟨rfl, rfl⟩
      go_wp2
      go_ret
      exact ⟨rfl, by repeat (first | exact Grown.refl _ | apply Grown.drew | apply Grown.alloc)⟩
end Go.Proofs.Qxb6605314a.DigConc

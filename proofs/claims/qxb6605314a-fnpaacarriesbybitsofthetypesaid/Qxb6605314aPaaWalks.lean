import Derived.Test.Qxb6605314aRows
import Derived.WalkKit
import Derived.OwnWalk
import Derived.Outline
namespace Go.Proofs.Qxb6605314a.PaaWalks
open Go.RowKit

theorem f21_1 (w : World) : Calls Try.prog 21 #[.int .u8 1] w fun e w' => e = .returned (.tuple #[.bool true, .bool false, .bool true]) ∧ w' = w := by
  go_enter Try.func21, Try.ntmps21
  go_wp2
  go_ret3
  exact ⟨rfl, rfl⟩
theorem f21_2 (w : World) : Calls Try.prog 21 #[.int .u8 2] w fun e w' => e = .returned (.tuple #[.bool false, .bool true, .bool true]) ∧ w' = w := by
  go_enter Try.func21, Try.ntmps21
  go_wp2
  go_ret3
  exact ⟨rfl, rfl⟩
theorem f21_3 (w : World) : Calls Try.prog 21 #[.int .u8 3] w fun e w' => e = .returned (.tuple #[.bool true, .bool true, .bool true]) ∧ w' = w := by
  go_enter Try.func21, Try.ntmps21
  go_wp2
  go_ret3
  exact ⟨rfl, rfl⟩
theorem f21_n (a : Int) (h1 : (a == 1) = false) (h2 : (a == 2) = false) (h3 : (a == 3) = false) (w : World) : Calls Try.prog 21 #[.int .u8 a] w fun e w' => e = .returned (.tuple #[.bool false, .bool false, .bool false]) ∧ w' = w := by
  go_enter Try.func21, Try.ntmps21
  go_wp2
  go_ret3
  exact ⟨rfl, rfl⟩
theorem f16_any (a : Int) (r : Value) (r1 r2 r3 : Bool) (hr : r = .tuple #[.bool r1, .bool r2, .bool r3]) (h : ∀ w, Calls Try.prog 21 #[.int .u8 a] w fun e w' => e = .returned r ∧ w' = w) (w : World) :
    Calls Try.prog 16 #[.int .u8 a] w fun e w' => e = .returned r ∧ w' = w := by
  subst hr
  go_enter Try.func16, Try.ntmps16
  go_wp2_with (go_at_call 21; refine (h _).mono ?_; rintro e w' ⟨rfl, rfl⟩)
  go_ret3
  exact ⟨rfl, rfl⟩
theorem f16_1 (w : World) : Calls Try.prog 16 #[.int .u8 1] w fun e w' => e = .returned (.tuple #[.bool true, .bool false, .bool true]) ∧ w' = w := f16_any 1 _ _ _ _ rfl f21_1 w
theorem f16_2 (w : World) : Calls Try.prog 16 #[.int .u8 2] w fun e w' => e = .returned (.tuple #[.bool false, .bool true, .bool true]) ∧ w' = w := f16_any 2 _ _ _ _ rfl f21_2 w
theorem f16_3 (w : World) : Calls Try.prog 16 #[.int .u8 3] w fun e w' => e = .returned (.tuple #[.bool true, .bool true, .bool true]) ∧ w' = w := f16_any 3 _ _ _ _ rfl f21_3 w
theorem f16_n (a : Int) (h1 : (a == 1) = false) (h2 : (a == 2) = false) (h3 : (a == 3) = false) (w : World) : Calls Try.prog 16 #[.int .u8 a] w fun e w' => e = .returned (.tuple #[.bool false, .bool false, .bool false]) ∧ w' = w := f16_any a _ _ _ _ rfl (f21_n a h1 h2 h3) w
end Go.Proofs.Qxb6605314a.PaaWalks

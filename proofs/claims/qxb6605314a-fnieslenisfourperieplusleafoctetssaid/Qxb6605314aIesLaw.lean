import Derived.Test.Qxb6605314aIesLeft
import Derived.Test.Qxb6605314aIesLen
import Derived.Test.Qxb6605314aIesTo
import Derived.Test.Qxb6605314aIesModel
namespace Go.Proofs.Qxb6605314a.IesLaw
open Go.RowKit Go.Proofs.Qxb6605314a.IesTree

theorem sum_mv (l : List Nod) (h : ∀ (j : Nat) (a : Nod), l[j]? = some a → a.M ≤ a.V) : sumM l ≤ sumV l := by
  induction l with
  | nil => simp [sumM, sumV]
  | cons a l ih =>
    have h0 := h 0 a (by simp)
    have h1 := ih fun j b hb => h (j + 1) b (by simpa using hb)
    simp only [sumM, sumV]; omega
theorem fr_mv {P : World → Option Addr → Nat → Prop} {ok : Nat → Prop} {w : World} : ∀ (d : Nat) (x : Option Addr) (l : List Nod), Fr P ok d w x l → sumM l ≤ sumV l
  | 0, _, l, h => by have h' : l = [] := h
                     subst h'; simp [sumM, sumV]
  | d + 1, x, l, h => sum_mv l fun j a ha => by
    obtain ⟨b, off, _, _, _, hj⟩ := h (by intro e; subst e; simp at ha)
    rcases (hj j a ha).2.2 with ⟨_, _, _, h1, h2⟩ | ⟨k, kl, _, hk, _, _, h1, h2⟩
    · omega
    · have := fr_mv d _ kl hk; omega

set_option maxHeartbeats 400000 in
theorem f3_any (d : Nat) (x : Option Addr) (l : List Nod) (c : Nat) (w : World) (hf : Fi d w x l) :
    Calls Try.prog 3 #[.slice x l.length c] w fun e w' => e = .returned (.bool true) ∧ Below w.heap.size w w' := by
  have hmv := fr_mv d x l hf
  have HF : Hid (Fi d w x l) := hf
  clear hf
  go_enter Try.func3, Try.ntmps3
  go_wp2_with fail
  refine (IesLeft.f8_any d x l c 1048576 w HF.out (by omega) (by omega)).mono ?_
  rintro e w' ⟨r, rfl, hw', hr⟩
  obtain rfl := hw'.symm
  clear hw'
  rcases hr with hr | ⟨r0, r1⟩
  · subst hr
    go_wp2_with fail
    go_ret
    exact ⟨rfl, Below.refl _ _⟩
  · have hN : sumN l ≤ 1048576 := by omega
    have hV : sumV l ≤ 1048576 := by omega
    have hM : sumM l ≤ 1048576 := by omega
    clear r1
    go_wp2_with fail
    refine (IesTo.f9_any d x l c w HF.out hN hV).mono ?_
    rintro e w1 ⟨y, c', l', rfl, q1, q2, q3, q4, -, hfo, hb1⟩
    have HK : Hid (Calls Try.prog 10 #[.slice y l.length c'] w1 fun e w' => e = .returned (.int .i64 (4 * (sumN l : Int) + sumM l)) ∧ Below w1.heap.size w1 w') := by
      have := IesLen.f10_any d w.heap.size y l' c' w1 hfo (by omega) (by omega)
      rw [q1, q2, q3] at this; exact this
    clear hfo q1 q2 q3 q4
    go_wp2_with fail
    refine HK.out.mono ?_
    rintro e w2 ⟨rfl, hb2⟩
    have hb3 : Below w.heap.size w w2 := hb1.trans (hb2.mono hb1.size)
    have HF2 : Hid (Fi d w2 x l) := Fi.below HF.out hb3
    clear hb1 hb2
    go_wp2_with fail
    refine (IesModel.f11_any d x l c w2 HF2.out hN hM).mono ?_
    rintro e w3 ⟨rfl, hb4⟩
    have HB : Hid (Below w.heap.size w w3) := hb3.trans (hb4.mono hb3.size)
    clear hb3 hb4
    go_wp2_with fail
    go_ret
    exact ⟨ret_bool (by simp), HB.out⟩
end Go.Proofs.Qxb6605314a.IesLaw

import Derived.Test.Qxb6605314aIesTree
namespace Go.Proofs.Qxb6605314a.IesLen
open Go.RowKit Go.Proofs.Qxb6605314a.IesTree

set_option maxHeartbeats 1000000 in
theorem f18_any (d : Nat) : ∀ (B : Nat) (x : Option Addr) (l : List Nod) (c : Nat) (w : World), Fo B d w x l → sumN l ≤ 1048576 → sumM l ≤ 1048576 →
    Calls Try.prog 18 #[.slice x l.length c] w fun e w' => e = .returned (.int .i64 (4 * (sumN l : Int) + sumM l)) ∧ Below w.heap.size w w' := by
  induction d using Nat.strongRecOn with
  | ind d ih =>
    intro B x l c w hf h0 h1
    have q : ∀ (w : World) (a : Option Addr) (n c n' c' : Nat), (binOp .neq 24 (.slice a n c) (.slice none n' c')).run Try.prog w = .ok (.bool (!a.isNone)) w := fun w a n c n' c' => run_neq_slice_nil_any w _ _ a n c n' c' Try.underlying24
    have hlen := hf.len
    have HF : Hid (Fo B d w x l) := hf
    have IH : Hid _ := ih
    clear hf ih
    go_enter Try.func18, Try.ntmps18
    go_wp2_with fail
    go_loopw [3, 8] (fun a i wr => ∃ (k : Nat) (nv : Int), k ≤ l.length ∧ i = .int .i64 k ∧ a = .int .i64 nv ∧ 0 ≤ nv ∧ nv ≤ 5242880 ∧ Hid (nv = 4 * (sumN (l.take k) : Int) + sumM (l.take k)) ∧ Below w.heap.size w wr) (fun _ i _ => l.length - (intOf i).toNat)
    case atStart => exact ⟨0, 0, Nat.zero_le _, rfl, rfl, by omega, by omega, by simp [Hid, sumN, sumM], Below.refl _ _⟩
    case round =>
      obtain ⟨k, nv, hk, rfl, rfl, hl0, hl1, HS, hbel⟩ := hrel
      by_cases hlt : k < l.length
      · obtain ⟨a, ha⟩ : ∃ a, l[k]? = some a := ⟨l[k], by simp⟩
        have HN : Hid _ := sumN_take ha
        have HM : Hid _ := sumM_take ha
        have hnN := sumN_le l (k + 1)
        have hnM := sumM_le l (k + 1)
        obtain ⟨d', rfl⟩ : ∃ d', d = d' + 1 := by
          cases d with
          | zero => have h : l = [] := HF.out
                    subst h; simp at hlt
          | succ d' => exact ⟨d', rfl⟩
        obtain ⟨b, off, hx, hb, -, hj⟩ := HF.out (by intro h; subst h; simp at hlt)
        subst hx
        obtain ⟨hat, hg⟩ := hj k a ha
        obtain ⟨c0, c1, c2, c3⟩ := hat.same (w' := wr) (hbel.block b hb)
        have HG : Hid _ := hg.2
        have hsz := hbel.size
        clear hj hg ha hat
        rcases HG.out with ⟨g1, g2, g3, g4, g5⟩ | ⟨kk, kl, g1, g2, g3, g4, g5, g6⟩
        · have HE : Hid _ := And.intro g3 g4
          have hvb : a.vn ≤ 1048576 := by have := HM.out; omega
          rw [g1, g2] at c3
          clear g1 g2 g3 g4 g5
          go_wp2_with fail
          go_roundw
          case rel => exact ⟨k + 1, nv + 4 + a.vn, by omega, by go_num, rfl, by omega, by have := HS.out; have h1 := HN.out; have h2 := HM.out; have h3 := HE.out; omega, by have := HS.out; have h1 := HN.out; have h2 := HM.out; have h3 := HE.out; unfold Hid; omega, hbel.alloc hsz _⟩
          case measure => simp [intOf]; omega
        · rw [g1] at c3
          have HE : Hid _ := And.intro g4 g5
          have hkN : sumN kl ≤ 1048576 := by have := HN.out; omega
          have hkM : sumM kl ≤ 1048576 := by have := HM.out; omega
          have HK : Hid (∀ w1, Below w.heap.size w w1 → Calls Try.prog 18 #[.slice (some kk) a.kn a.kc] w1 fun e w' => e = .returned (.int .i64 (4 * (sumN kl : Int) + sumM kl)) ∧ Below w1.heap.size w1 w') := by
            intro w1 hb1
            have := IH.out d' (by omega) B (some kk) kl a.kc w1 (Fo.below g2 hb1 (Nat.le_refl _)) hkN hkM
            rw [g3] at this; exact this
          clear g1 g2 g3 g4 g5 g6
          go_wp2_with fail
          refine (HK.out _ (hbel.alloc hsz _)).mono ?_
          rintro e w' ⟨rfl, hb2⟩
          have hbel2 := (hbel.alloc hsz (.cells #[.int .u8 a.t, .int .u8 a.i, .slice a.vx a.vn a.vc, .slice (some kk) a.kn a.kc] 40)).trans (hb2.mono (by simp; omega))
          clear hb2 hbel
          go_wp2_with fail
          go_roundw
          case rel => exact ⟨k + 1, nv + 4 + (4 * (sumN kl : Int) + sumM kl), by omega, by go_num, rfl, by omega, by have := HS.out; have h1 := HN.out; have h2 := HM.out; have h3 := HE.out; omega, by have := HS.out; have h1 := HN.out; have h2 := HM.out; have h3 := HE.out; unfold Hid; omega, hbel2⟩
          case measure => simp [intOf]; omega
      · go_wp2_with fail
        go_ret
        exact ⟨ret_int (by have := HS.out; rw [List.take_of_length_le (by omega)] at this; exact this), hbel⟩

theorem f10_any (d B : Nat) (x : Option Addr) (l : List Nod) (c : Nat) (w : World) (hf : Fo B d w x l) (h0 : sumN l ≤ 1048576) (h1 : sumM l ≤ 1048576) :
    Calls Try.prog 10 #[.slice x l.length c] w fun e w' => e = .returned (.int .i64 (4 * (sumN l : Int) + sumM l)) ∧ Below w.heap.size w w' := by
  have HK : Hid (Calls Try.prog 18 #[.slice x l.length c] w fun e w' => e = .returned (.int .i64 (4 * (sumN l : Int) + sumM l)) ∧ Below w.heap.size w w') := f18_any d B x l c w hf h0 h1
  clear hf
  go_enter Try.func10, Try.ntmps10
  go_wp2_with fail
  refine HK.out.mono ?_
  rintro e w' ⟨rfl, hb⟩
  go_wp2_with fail
  go_ret
  exact ⟨rfl, hb⟩
end Go.Proofs.Qxb6605314a.IesLen

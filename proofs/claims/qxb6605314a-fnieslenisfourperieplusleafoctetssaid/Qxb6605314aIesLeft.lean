import Derived.Test.Qxb6605314aIesTree
namespace Go.Proofs.Qxb6605314a.IesLeft
open Go.RowKit Go.Proofs.Qxb6605314a.IesTree

/-- what zzLeft answers -/
def LeftOf (l : List Nod) (left : Int) (w : World) (e : Ending) (w' : World) : Prop :=
  ∃ r : Int, e = .returned (.int .i64 r) ∧ w' = w ∧ (r = -1 ∨ (0 ≤ r ∧ r + 56 * sumN l + sumV l = left))
theorem LeftOf.no {l : List Nod} {left : Int} {w : World} : LeftOf l left w (.returned (.int .i64 (-1))) w := ⟨-1, rfl, rfl, .inl rfl⟩
theorem LeftOf.yes {l : List Nod} {left r : Int} {w : World} (h : 0 ≤ r) (h' : r + 56 * sumN l + sumV l = left) : LeftOf l left w (.returned (.int .i64 r)) w := ⟨r, rfl, rfl, .inr ⟨h, h'⟩⟩

set_option maxHeartbeats 1000000 in
theorem f8_any (d : Nat) : ∀ (x : Option Addr) (l : List Nod) (c : Nat) (left : Int) (w : World), Fi d w x l → 0 ≤ left → left ≤ 1048576 →
    Calls Try.prog 8 #[.slice x l.length c, .int .i64 left] w fun e w' => LeftOf l left w e w' := by
  induction d using Nat.strongRecOn with
  | ind d ih =>
    intro x l c left w hf h0 h1
    have q : ∀ (w : World) (a : Option Addr) (n c n' c' : Nat), (binOp .neq 22 (.slice a n c) (.slice none n' c')).run Try.prog w = .ok (.bool (!a.isNone)) w := fun w a n c n' c' => run_neq_slice_nil_any w _ _ a n c n' c' Try.underlying22
    have HF : Hid (Fi d w x l) := hf
    have IH : Hid _ := ih
    clear hf ih
    go_enter Try.func8, Try.ntmps8
    go_wp2_with fail
    go_loop [1, 5] (fun a i => ∃ (k : Nat) (lv : Int), k ≤ l.length ∧ i = .int .i64 k ∧ a = .int .i64 lv ∧ 0 ≤ lv ∧ lv + 56 * k ≤ 1048576 ∧ Hid (lv + 56 * sumN (l.take k) + sumV (l.take k) = left)) (fun _ i => l.length - (intOf i).toNat)
    case atStart => exact ⟨0, left, Nat.zero_le _, rfl, rfl, h0, by omega, by simp [Hid, sumN, sumV]⟩
    case round =>
      obtain ⟨k, lv, hk, rfl, rfl, hl0, hl1, HS⟩ := hrel
      by_cases hlt : k < l.length
      · obtain ⟨a, ha⟩ : ∃ a, l[k]? = some a := ⟨l[k], by simp⟩
        have HN : Hid _ := sumN_take ha
        have HV : Hid _ := sumV_take ha
        obtain ⟨d', rfl⟩ : ∃ d', d = d' + 1 := by
          cases d with
          | zero => have h : l = [] := HF.out
                    subst h; simp at hlt
          | succ d' => exact ⟨d', rfl⟩
        obtain ⟨b, off, hx, hb, -, hj⟩ := HF.out (by intro h; subst h; simp at hlt)
        subst hx
        obtain ⟨⟨c0, c1, c2, c3⟩, hg⟩ := hj k a ha
        have HG : Hid _ := hg.2
        clear hj hg ha
        by_cases l1 : lv < 56
        · go_wp2_with fail
          go_ret
          exact LeftOf.no
        · by_cases l2 : lv - 56 < a.vn
          · go_wp2_with fail
            go_ret
            exact LeftOf.no
          · rcases HG.out with ⟨g1, g2, g3, g4, g5⟩ | ⟨kk, kl, g1, g2, g3, g4, g5, g6⟩
            · have HE : Hid _ := And.intro g3 g5
              rw [g1, g2] at c3
              clear g1 g2 g3 g4 g5
              go_wp2_with fail
              go_round
              case rel => exact ⟨k + 1, lv - 56 - a.vn, by omega, by go_num, rfl, by omega, by omega, by have := HS.out; have h1 := HN.out; have h2 := HV.out; have h3 := HE.out; unfold Hid; omega⟩
              case measure => simp [intOf]; omega
            · rw [g1] at c3
              have HE : Hid _ := And.intro g4 g6
              have HK : Hid (Calls Try.prog 8 #[.slice (some kk) a.kn a.kc, .int .i64 (lv - 56 - a.vn)] w fun e w' => LeftOf kl (lv - 56 - a.vn) w e w') := by
                have := IH.out d' (by omega) (some kk) kl a.kc (lv - 56 - a.vn) w g2 (by omega) (by omega)
                rw [g3] at this; exact this
              clear g1 g2 g3 g4 g5 g6
              go_wp2_with fail
              refine HK.out.mono ?_
              rintro e w' ⟨r, rfl, hw', hr⟩
              obtain rfl := hw'.symm
              clear hw'
              rcases hr with hr | ⟨r0, r1⟩
              · subst hr
                go_wp2_with fail
                go_ret
                exact LeftOf.no
              · have HR : Hid _ := r1
                have r2 : r ≤ lv - 56 := by omega
                clear r1
                go_wp2_with fail
                go_round
                case rel => exact ⟨k + 1, r, by omega, by go_num, rfl, by omega, by omega, by have := HS.out; have h1 := HN.out; have h2 := HV.out; have h3 := HE.out; have h4 := HR.out; unfold Hid; omega⟩
                case measure => simp [intOf]; omega
      · go_wp2_with fail
        go_ret
        exact LeftOf.yes hl0 (by have := HS.out; rw [List.take_of_length_le (by omega)] at this; exact this)
end Go.Proofs.Qxb6605314a.IesLeft

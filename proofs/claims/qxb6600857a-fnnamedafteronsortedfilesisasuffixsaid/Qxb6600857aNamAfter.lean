import Derived.Test.Qxb6600857aNamWalks
namespace Go.Proofs.Qxb6600857a.NamAfter
open Go.RowKit Go.Proofs.Qxb6600857a.Common Go.Proofs.Qxb6600857a.NamPlain Go.Proofs.Qxb6600857a.NamWalks

def vals (s : Nat → ByteArray) (l : List Nat) : List Value := l.map fun j => .string (s j)

theorem vals_snoc (s : Nat → ByteArray) (l : List Nat) (k : Nat) : vals s (l ++ [k]) = vals s l ++ [.string (s k)] := by simp [vals]

set_option maxHeartbeats 800000 in
theorem f24_any (fb n c : Nat) (s : Nat → ByteArray) (z : Nat → Int) (last : Int) (w : World) (hfb : fb < w.heap.size) (hc0 : ∀ j, j < n → w.cell? ⟨fb, j * 2, none⟩ = some (.string (s j)) ∧ w.cell? ⟨fb, j * 2 + 1, none⟩ = some (.int .i64 (z j))) (hn : n ≤ 65536) :
    Calls Try.prog 24 #[.slice (some ⟨fb, 0, none⟩) n c, .int .i64 last] w fun e w' => ∃ v, e = .returned v ∧ w'.ownsRow w.heap.size 9 1 v (filt z last n).length (vals s (filt z last n)) ∧ Below w.heap.size w w' := by
  obtain ⟨i0, hi, hz0, hz1, hz2⟩ := info_parts info9
  have HC : Hid _ := hc0
  clear hc0
  go_enter Try.func24, Try.ntmps24
  go_wp2
  go_loopw [5, 10] (fun v i wr => ∃ k : Nat, k ≤ n ∧ i = .int .i64 k ∧ wr.ownsRow w.heap.size 9 1 v (filt z last k).length (vals s (filt z last k)) ∧ Below w.heap.size w wr) (fun _ i _ => n - (intOf i).toNat)
  case atStart => exact ⟨0, Nat.zero_le _, rfl, World.ownsRow_nil _ _ _ _, Below.refl _ _⟩
  case round =>
    obtain ⟨k, hk, rfl, hown, hbel⟩ := hrel
    have hsz := hbel.size
    have hfl := filt_len z last k
    by_cases hlt : k < n
    · have c1 : wr.cell? ⟨fb, k * 2, none⟩ = some (.string (s k)) := (hbel.cell (p := ⟨fb, k * 2, none⟩) hfb).trans (HC.out k hlt).1
      have c2 : wr.cell? ⟨fb, k * 2 + 1, none⟩ = some (.int .i64 (z k)) := (hbel.cell (p := ⟨fb, k * 2 + 1, none⟩) hfb).trans (HC.out k hlt).2
      by_cases hz : last < z k
      · have HF : Hid _ := filt_succ_yes z last k hz
        go_wp2_with (at_builtin; refine wpList_append_own _ rfl (.tmp 18) (.tmp 21) 27 rfl w.heap.size 9 i0 (.string ByteArray.empty) 1 16 Try.underlying27 hi hz0 hz1 hz2 rfl (by decide) _ _ _ rfl ((hown.alloc _).alloc _) ⟨wr.heap.size + 1, 0, none⟩ 1 1 [.string (s k)] rfl rfl ?c1 ?c2 ?c3 ?c4 ?c5 ?_)
        case c1 =>
          intro j u hj
          match j, hj with
          | 0, hj => simp at hj; subst hj; simp [Addr.add]
        case c2 => intro u hu; simp at hu; subst hu; rfl
        case c3 => unfold maxLen; omega
        case c4 => omega
        case c5 => simp; omega
        · intro v' w1 hown' hgrow _
          have hb1 := ((hbel.alloc hsz (.cells #[.string (s k), .int .i64 (z k)] 39)).alloc (by simp; omega) (.cells #[.string (s k)] 9)).grown hgrow (by simp; omega) (fun g hg => (hown.lt g hg).1)
          have HO : Hid (w1.ownsRow w.heap.size 9 1 v' (filt z last (k + 1)).length (vals s (filt z last (k + 1)))) := by
            unfold Hid; rw [HF.out, vals_snoc, List.length_append]; exact hown'
          clear hown' hgrow hown
          go_wp2
          go_roundw
          case rel => exact ⟨k + 1, by omega, by go_num, HO.out, hb1⟩
          case measure => simp [intOf]; omega
      · have HF : Hid _ := filt_succ_no z last k hz
        go_wp2
        go_roundw
        case rel => exact ⟨k + 1, by omega, by go_num, by rw [HF.out]; exact hown.alloc _, hbel.alloc hsz _⟩
        case measure => simp [intOf]; omega
    · have : k = n := by omega
      subst this
      go_wp2
      go_ret
      exact ⟨_, rfl, hown, hbel⟩

theorem f20_any (fb n c : Nat) (s : Nat → ByteArray) (z : Nat → Int) (last : Int) (w : World) (hfb : fb < w.heap.size) (hc0 : ∀ j, j < n → w.cell? ⟨fb, j * 2, none⟩ = some (.string (s j)) ∧ w.cell? ⟨fb, j * 2 + 1, none⟩ = some (.int .i64 (z j))) (hn : n ≤ 65536) :
    Calls Try.prog 20 #[.slice (some ⟨fb, 0, none⟩) n c, .int .i64 last] w fun e w' => ∃ y d, e = .returned (.slice y (filt z last n).length d) ∧ Rd w' y (filt z last n).length (fun j => .string (s ((filt z last n).getD j 0))) ∧ Below w.heap.size w w' := by
  have HC : Hid _ := hc0
  clear hc0
  go_enter Try.func20, Try.ntmps20
  go_wp2_with fail
  refine (f24_any fb n c s z last _ hfb HC.out hn).mono ?_
  rintro e w1 ⟨v, rfl, hown, hbel⟩
  obtain ⟨y, d, hv, hrd⟩ : ∃ y d, v = .slice y (filt z last n).length d ∧ Rd w1 y (filt z last n).length (fun j => .string (s ((filt z last n).getD j 0))) := by
    rcases hown.2 with ⟨h1, h2⟩ | ⟨g, cap, cur, h1, h2, h3, h4, h5, h6, h7⟩
    · exact ⟨none, 0, by rw [h2]; exact h1, fun h => by omega⟩
    · refine ⟨some ⟨g, 0, none⟩, cap, h1, fun _ => ⟨g, 0, rfl, (hown.lt g (by rw [h1]; rfl)).2, fun j hj => ?_⟩⟩
      rw [h1] at hown
      rw [Nat.zero_add, hown.cellAt j (by omega)]
      unfold vals
      show _ = some (Value.string (s ((filt z last n).getD j 0)))
      rw [List.getElem?_map, List.getD_eq_getElem?_getD, List.getElem?_eq_getElem hj]
      rfl
  rw [hv]
  have HR : Hid _ := hrd
  have HB : Hid _ := hbel
  clear hrd hown hbel
  go_wp2
  go_ret
  exact ⟨y, d, rfl, HR.out, HB.out⟩
end Go.Proofs.Qxb6600857a.NamAfter

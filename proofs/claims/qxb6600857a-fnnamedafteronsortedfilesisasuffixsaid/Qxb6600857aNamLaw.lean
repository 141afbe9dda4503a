import Derived.Test.Qxb6600857aNamFiles
import Derived.Test.Qxb6600857aNamAfter
import Derived.Deep.QuietTactic
import Derived.BigQuiet
namespace Go.Proofs.Qxb6600857a.NamLaw
open Go.RowKit Go.Proofs.Qxb6600857a.Common Go.Proofs.Qxb6600857a.NamPlain Go.Proofs.Qxb6600857a.NamWalks Go.Proofs.Qxb6600857a.NamFiles Go.Proofs.Qxb6600857a.NamAfter

theorem files_cells {w : World} {B l : Nat} {xs : List Value} {s : Nat → ByteArray} {z : Nat → Int} (hown : w.ownsRow B 39 2 (.slice (some ⟨B, 0, none⟩) l l) l xs)
    (hxs : ∀ j, j < l → xs[2 * j]? = some (.string (s j)) ∧ xs[2 * j + 1]? = some (.int .i64 (z j))) :
    ∀ j, j < l → w.cell? ⟨B, j * 2, none⟩ = some (.string (s j)) ∧ w.cell? ⟨B, j * 2 + 1, none⟩ = some (.int .i64 (z j)) := by
  intro j hj
  rw [hown.cellAt (j * 2) (by omega), hown.cellAt (j * 2 + 1) (by omega), Nat.mul_comm j 2]
  exact hxs j hj

/-- Behind the loop that asks for the order: all that is left. -/
def Sorted (z : Nat → Int) (l k : Nat) : Prop := ∀ i, 1 ≤ i → i < k → i < l → z (i - 1) ≤ z i

set_option maxHeartbeats 1600000 in
theorem f6_any (x y : Option Addr) (n m c d : Nat) (last : Int) (s : Nat → ByteArray) (z : Nat → Int) (w : World) (hs : Rd w x n fun j => .string (s j)) (hz : Rd w y m fun j => .int .i64 (z j)) :
    Calls Try.prog 6 #[.slice x n c, .slice y m d, .int .i64 last] w fun e w' => e = .returned (.bool true) ∧ Below w.heap.size w w' := by
  have HS : Hid (Rd w x n fun j => .string (s j)) := hs
  have HZ : Hid (Rd w y m fun j => .int .i64 (z j)) := hz
  clear hs hz
  obtain ⟨l, hl⟩ : ∃ l, min n m = l := ⟨_, rfl⟩
  have hln : l ≤ n := by omega
  have hlm : l ≤ m := by omega
  have h16 : Hid (∀ w, Calls Try.prog 16 #[.slice x n c, .slice y m d] w fun e w' => e = .returned (.int .i64 (l : Int)) ∧ w' = w) := by
    intro w; have := f16_any x y n m c d w; rw [hl] at this; exact this
  have HL : Hid _ := hl
  clear hl
  go_enter Try.func6, Try.ntmps6
  go_wp2_with fail
  refine (f14_any x y n m c d last s w HS.out).mono ?_; rintro e w' ⟨b1, rfl, hw', -⟩; obtain rfl := hw'.symm
  cases b1
  · go_wp2
    go_ret
    exact ⟨rfl, Below.refl _ _⟩
  go_wp2_with fail
  refine (f15_any x y n m c d s w HS.out).mono ?_; rintro e w' ⟨b1, rfl, hw', hb⟩; obtain rfl := hw'.symm
  cases b1
  case true =>
    go_wp2
    go_ret
    exact ⟨rfl, Below.refl _ _⟩
  obtain ⟨hn, hm⟩ := hb rfl
  clear hb
  go_wp2_with fail
  refine (h16.out _).mono ?_; rintro e w' ⟨rfl, hw'⟩; obtain rfl := hw'.symm
  go_wp2
  go_loopw [8] (fun i wr => ∃ k : Nat, 1 ≤ k ∧ (k ≤ l ∨ k = 1) ∧ i = .int .i64 k ∧ Hid (Sorted z l k) ∧ Below w.heap.size w wr) (fun i _ => l - (intOf i).toNat)
  case atStart => exact ⟨1, Nat.le_refl _, .inr rfl, rfl, fun i h1 h2 => by omega, Below.refl _ _⟩
  case round =>
    obtain ⟨k, hk1, hk2, rfl, HO, hbel⟩ := hrel
    by_cases hlt : k < l
    · obtain ⟨j, rfl⟩ : ∃ j, k = j + 1 := ⟨k - 1, by omega⟩
      obtain ⟨b, off, hy, hbw, hcell⟩ := HZ.out (by omega)
      subst hy
      have c1 : wr.cell? ⟨b, off + j, none⟩ = some (.int .i64 (z j)) := (hbel.cell (p := ⟨b, off + j, none⟩) hbw).trans (hcell j (by omega))
      have c2 : wr.cell? ⟨b, off + (j + 1), none⟩ = some (.int .i64 (z (j + 1))) := (hbel.cell (p := ⟨b, off + (j + 1), none⟩) hbw).trans (hcell (j + 1) (by omega))
      have hi1 : (j : Int) < m := by omega
      have hi2 : (j : Int) + 1 < m := by omega
      clear hcell
      go_wp2_with fail
      go_quiet (fail)
      go_wp2
      · go_ret
        exact ⟨rfl, below_drewN hbel _⟩
      · have hle : z j ≤ z (j + 1) := by assumption
        go_roundw
        case rel =>
          refine ⟨j + 2, by omega, .inl (by omega), by go_num, ?_, below_drewN hbel _⟩
          intro i h1 h2 h3
          by_cases e : i = j + 1
          · subst e; exact hle
          · exact HO.out i h1 (by omega) h3
        case measure => simp [intOf]; omega
    · have HO' : Hid (∀ i j, i ≤ j → j < l → z i ≤ z j) := sorted_of z l fun i h1 h2 => HO.out i h1 (by omega) h2
      clear HO
      have hlmin : min n m = l := HL.out
      go_wp2_with fail
      refine (f17_any x n c s wr (HS.out.below hbel) (by omega)).mono ?_; rintro e w1 ⟨x1, c1, rfl, hb1, hr1⟩
      have HR1 : Hid (Rd w1 x1 n fun j => .string (s j)) := hr1
      have hbA : Below w.heap.size w w1 := hbel.trans (hb1.mono hbel.size)
      clear hr1 hb1 hbel
      go_wp2_with fail
      refine (f18_any y m d z w1 (HZ.out.below hbA) (by omega)).mono ?_; rintro e w2 ⟨y1, d1, rfl, hb2, hr2⟩
      have HR1 : Hid (Rd w2 x1 n fun j => .string (s j)) := HR1.out.below hb2
      have HR2 : Hid (Rd w2 y1 m fun j => .int .i64 (z j)) := hr2
      have hbB : Below w.heap.size w w2 := hbA.trans (hb2.mono hbA.size)
      clear hr2 hb2 hbA
      go_wp2_with fail
      refine (f19_any x1 y1 n m c1 d1 s z w2 HR1.out HR2.out hn hm).mono ?_; rintro e w3 ⟨xs, rfl, hb3, hown, hxs⟩
      rw [hlmin] at hown hxs ⊢
      have HF : Hid _ := files_cells hown hxs
      have hlt3 := (hown.lt _ rfl).2
      have HR1 : Hid (Rd w3 x1 n fun j => .string (s j)) := HR1.out.below hb3
      have HR2 : Hid (Rd w3 y1 m fun j => .int .i64 (z j)) := HR2.out.below hb3
      have hbC : Below w.heap.size w w3 := hbB.trans (hb3.mono hbB.size)
      clear hown hxs hb3 hbB
      go_wp2_with fail
      refine (f20_any w2.heap.size l l s z last w3 hlt3 HF.out (by omega)).mono ?_; rintro e w4 ⟨g, gc, rfl, hr3, hb4⟩
      have HR1 : Hid (Rd w4 x1 n fun j => .string (s j)) := HR1.out.below hb4
      have HR2 : Hid (Rd w4 y1 m fun j => .int .i64 (z j)) := HR2.out.below hb4
      have HR3 : Hid (Rd w4 g (filt z last l).length fun j => .string (s ((filt z last l).getD j 0))) := hr3
      have HBD : Hid (Below w.heap.size w w4) := hbC.trans (hb4.mono hbC.size)
      clear hr3 hb4 hbC hlt3
      have hfl := filt_len z last l
      go_wp2
      go_loop [11, 12] (fun a b => ∃ lo hi : Nat, lo ≤ hi ∧ hi ≤ l ∧ a = .int .i64 lo ∧ b = .int .i64 hi ∧ Hid ((∀ j, j < lo → z j ≤ last) ∧ ∀ j, hi ≤ j → j < l → last < z j)) (fun a b => (intOf b).toNat - (intOf a).toNat)
      case atStart => exact ⟨0, l, Nat.zero_le _, Nat.le_refl _, rfl, rfl, fun j h => by omega, fun j h1 h2 => by omega⟩
      case round =>
        obtain ⟨lo, hi, hlo, hhi, rfl, rfl, HI⟩ := hrel
        by_cases hlt2 : lo < hi
        · obtain ⟨b, off, hy, hbw, hcell⟩ := HR2.out (by omega)
          subst hy
          obtain ⟨mid, hmid⟩ : ∃ mid : Nat, (lo : Int) + ((hi : Int) - lo) / 2 = mid := ⟨lo + (hi - lo) / 2, by omega⟩
          have hm1 : lo ≤ mid := by omega
          have hm2 : mid < hi := by omega
          have hcm : w4.cell? ⟨b, off + mid, none⟩ = some (.int .i64 (z mid)) := hcell mid (by omega)
          clear hcell
          by_cases hzm : last < z mid
          · go_wp2
            go_round
            case rel => exact ⟨lo, mid, by omega, by omega, rfl, rfl, HI.out.1, fun j h1 h2 => by have := HO'.out mid j h1 h2; omega⟩
            case measure => simp [intOf]; omega
          · go_wp2
            go_round
            case rel => exact ⟨mid + 1, hi, by omega, by omega, by go_num, rfl, fun j h1 => by have := HO'.out j mid (by omega) (by omega); omega, HI.out.2⟩
            case measure => simp [intOf]; omega
        · have he : lo = hi := by omega
          subst he
          have HT := filt_tail_len z last lo l HI.out.1 hhi HI.out.2
          have t1 : (filt z last l).length + lo ≤ l := by omega
          have t2 : l ≤ (filt z last l).length + lo := by omega
          have HA : Hid (∀ k, k < l - lo → (filt z last l)[k]? = some (lo + k)) := filt_tail_at z last lo l HI.out.1 hhi HI.out.2
          clear HT
          go_wp2
          go_loopw [14] (fun i wr => ∃ j : Nat, j ≤ (filt z last l).length ∧ i = .int .i64 j ∧ Below w4.heap.size w4 wr) (fun i _ => (filt z last l).length - (intOf i).toNat)
          case atStart => exact ⟨0, Nat.zero_le _, rfl, Below.refl _ _⟩
          case round =>
            obtain ⟨j, hj, rfl, hbr⟩ := hrel
            by_cases hlt3 : j < (filt z last l).length
            · obtain ⟨b, off, hx1, hbw, hcell⟩ := HR1.out (by omega)
              subst hx1
              obtain ⟨b3, off3, hg, hbw3, hcell3⟩ := HR3.out (by omega)
              subst hg
              have q1 : wr.cell? ⟨b, off + (lo + j), none⟩ = some (.string (s (lo + j))) := (hbr.cell (p := ⟨b, off + (lo + j), none⟩) hbw).trans (hcell (lo + j) (by omega))
              have q2 : wr.cell? ⟨b3, off3 + j, none⟩ = some (.string (s (lo + j))) := by
                have h1 : wr.cell? ⟨b3, off3 + j, none⟩ = some (.string (s ((filt z last l).getD j 0))) := (hbr.cell (p := ⟨b3, off3 + j, none⟩) hbw3).trans (hcell3 j hlt3)
                rw [List.getD_eq_getElem?_getD, HA.out j (by omega)] at h1
                exact h1
              have hi1 : (j : Int) < (filt z last l).length := by omega
              have hi2 : (lo : Int) + j < n := by omega
              clear hcell hcell3
              go_wp2_with fail
              go_quiet (fail)
              go_wp2
              go_roundw
              case rel => exact ⟨j + 1, by omega, by go_num, below_drewN hbr _⟩
              case measure => simp [intOf]; omega
            · go_wp2
              go_ret
              exact ⟨rfl, HBD.out.trans (hbr.mono HBD.out.size)⟩
end Go.Proofs.Qxb6600857a.NamLaw

import Derived.Test.Qxb6600857aNamWalks
import Derived.Deep.RegionWith
import Derived.Laws.ResultCell
namespace Go.Proofs.Qxb6600857a.NamFiles
open Go.RowKit Go.Proofs.Qxb6600857a.Common Go.Proofs.Qxb6600857a.NamPlain Go.Proofs.Qxb6600857a.NamWalks

theorem f23_any (a : ByteArray) (z : Int) (w : World) :
    Calls Try.prog 23 #[.string a, .int .i64 z] w fun e w' => e = .returned (.agg #[.string a, .int .i64 z]) ∧ w' = w.alloc (.cells #[.string a, .int .i64 z] 39) := by
  go_enter Try.func23, Try.ntmps23
  go_wp2
  exact bodyPost_ret (v := .agg #[.string a, .int .i64 z]) (by simp [results, Try.results23, go_sem]) rfl ⟨rfl, rfl⟩

theorem info39 : (Try.prog.info? 39).map (fun i => (i.zero, i.size, i.bytes)) = some (some (.agg #[.string ByteArray.empty, .int .i64 0]), 2, 24) := by kernel_rfl

theorem files_step {w wr : World} {B k l : Nat} {xs : List Value} {s : Nat → ByteArray} {z : Nat → Int} (hown : wr.ownsRow B 39 2 (.slice (some ⟨B, 0, none⟩) l l) l xs) (hk : k < l)
    (hxs : ∀ j, j < k → xs[2 * j]? = some (.string (s j)) ∧ xs[2 * j + 1]? = some (.int .i64 (z j))) (hbel : Below B w wr) :
    ((wr.setCell ⟨B, k * 2, none⟩ (.string (s k))).setCell ⟨B, k * 2 + 1, none⟩ (.int .i64 (z k))).ownsRow B 39 2 (.slice (some ⟨B, 0, none⟩) l l) l ((xs.set (k * 2) (.string (s k))).set (k * 2 + 1) (.int .i64 (z k))) ∧
    (∀ j, j < k + 1 → ((xs.set (k * 2) (.string (s k))).set (k * 2 + 1) (.int .i64 (z k)))[2 * j]? = some (.string (s j)) ∧ ((xs.set (k * 2) (.string (s k))).set (k * 2 + 1) (.int .i64 (z k)))[2 * j + 1]? = some (.int .i64 (z j))) ∧
    Below B w ((wr.setCell ⟨B, k * 2, none⟩ (.string (s k))).setCell ⟨B, k * 2 + 1, none⟩ (.int .i64 (z k))) := by
  have hl := hown.1
  refine ⟨((hown.stored _ _).1.stored _ _).1, fun j hj => ?_, (hbel.setCell (Nat.le_refl _) _).setCell (Nat.le_refl _) _⟩
  by_cases e : j = k
  · subst e
    constructor
    · rw [List.getElem?_set_ne (by omega), Nat.mul_comm 2 j, List.getElem?_set_self (by omega)]
    · rw [Nat.mul_comm 2 j, List.getElem?_set_self (by simp; omega)]
  · rw [List.getElem?_set_ne (by omega), List.getElem?_set_ne (by omega), List.getElem?_set_ne (by omega), List.getElem?_set_ne (by omega)]
    exact hxs j (by omega)

set_option maxHeartbeats 800000 in
theorem f19_any (x y : Option Addr) (n m c d : Nat) (s : Nat → ByteArray) (z : Nat → Int) (w : World) (hs : Rd w x n fun j => .string (s j)) (hz : Rd w y m fun j => .int .i64 (z j)) (hn : n ≤ 65536) (hm : m ≤ 65536) :
    Calls Try.prog 19 #[.slice x n c, .slice y m d] w fun e w' => ∃ xs, e = .returned (.slice (some ⟨w.heap.size, 0, none⟩) (min n m) (min n m)) ∧ Below w.heap.size w w' ∧ w'.ownsRow w.heap.size 39 2 (.slice (some ⟨w.heap.size, 0, none⟩) (min n m) (min n m)) (min n m) xs ∧ ∀ j, j < min n m → xs[2 * j]? = some (.string (s j)) ∧ xs[2 * j + 1]? = some (.int .i64 (z j)) := by
  obtain ⟨i0, hi, hz0, hz1, hz2⟩ := info_parts info39
  have HS : Hid _ := hs
  have HZ : Hid _ := hz
  clear hs hz
  obtain ⟨l, hl⟩ : ∃ l, min n m = l := ⟨_, rfl⟩
  have hln : l ≤ n := by omega
  have hlm : l ≤ m := by omega
  have h16 : Hid (∀ w, Calls Try.prog 16 #[.slice x n c, .slice y m d] w fun e w' => e = .returned (.int .i64 (l : Int)) ∧ w' = w) := by
    intro w; have := f16_any x y n m c d w; rw [hl] at this; exact this
  rw [hl]
  clear hl
  go_enter Try.func19, Try.ntmps19
  go_wp2_with (first | (go_at_call 16; refine (h16.out _).mono ?_; rintro e w' ⟨rfl, hw'⟩; obtain rfl := hw'.symm) | (refine wpList_make_full _ rfl (.tmp 11) (.tmp 11) 34 rfl w.heap.size 39 i0 (.agg #[.string ByteArray.empty, .int .i64 0]) 2 Try.underlying34 hi hz0 hz1 .i64 .i64 _ _ l rfl rfl rfl rfl (by rw [hz2]; omega) (by unfold maxLen; omega) (Nat.le_refl _) ?_; intro w1 hown hgr))
  go_loopw [7] (fun i wr => ∃ (k : Nat) (xs : List Value), k ≤ l ∧ i = .int .i64 k ∧ wr.ownsRow w.heap.size 39 2 (.slice (some ⟨w.heap.size, 0, none⟩) l l) l xs ∧ (∀ j, j < k → xs[2 * j]? = some (.string (s j)) ∧ xs[2 * j + 1]? = some (.int .i64 (z j))) ∧ Below w.heap.size w wr) (fun i _ => l - (intOf i).toNat)
  case atStart => exact ⟨0, _, Nat.zero_le _, rfl, hown, fun j hj => absurd hj (by omega), (Below.refl _ _).grown hgr (Nat.le_refl _) (by simp)⟩
  case round =>
    obtain ⟨k, xs, hk, rfl, hownr, hxs, hbel⟩ := hrel
    by_cases hlt : k < l
    · obtain ⟨b, off, hx, hbw, hcell⟩ := HS.out (by omega)
      subst hx
      obtain ⟨b', off', hy, hbw', hcell'⟩ := HZ.out (by omega)
      subst hy
      have hc : wr.cell? ⟨b, off + k, none⟩ = some (.string (s k)) := (hbel.cell (p := ⟨b, off + k, none⟩) hbw).trans (hcell k (by omega))
      have hc' : wr.cell? ⟨b', off' + k, none⟩ = some (.int .i64 (z k)) := (hbel.cell (p := ⟨b', off' + k, none⟩) hbw').trans (hcell' k (by omega))
      have hsz := hbel.size
      have hlt2 := (hownr.lt w.heap.size rfl).2
      obtain ⟨o0, hd0⟩ : ∃ o0, wr.cell? ⟨w.heap.size, k * 2, none⟩ = some o0 := ⟨xs[k * 2]'(by have := hownr.1; omega), by rw [hownr.cellAt (k * 2) (by omega)]; simp⟩
      obtain ⟨o1, hd1⟩ : ∃ o1, wr.cell? ⟨w.heap.size, k * 2 + 1, none⟩ = some o1 := ⟨xs[k * 2 + 1]'(by have := hownr.1; omega), by rw [hownr.cellAt (k * 2 + 1) (by omega)]; simp⟩
      have hf0 : wr.frozen? ⟨w.heap.size, k * 2, none⟩ = false := hownr.frozenAt _
      have hf1 : wr.frozen? ⟨w.heap.size, k * 2 + 1, none⟩ = false := hownr.frozenAt _
      have R : Hid _ := files_step hownr hlt hxs hbel
      clear hown hgr hownr hxs hbel hcell hcell'
      go_wp2
      go_region_with (go_at_call 23; refine (f23_any _ _ _).mono ?_; rintro e w' ⟨rfl, rfl⟩)
      all_goals go_wp2
      all_goals go_roundw
      all_goals first
        | exact ⟨k + 1, _, by omega, by go_num, (R.out.1.alloc _).drew, R.out.2.1, (R.out.2.2.alloc (by simpa using hsz) _).drew⟩
        | (simp [intOf]; omega)
    · go_wp2
      go_ret
      exact ⟨_, rfl, hbel, hownr, fun j hj => hxs j (by omega)⟩
end Go.Proofs.Qxb6600857a.NamFiles

import Derived.Test.Qxb6600857aCommon
import Derived.Test.Qxb6600857aNamPlain
namespace Go.Proofs.Qxb6600857a.NamWalks
open Go.RowKit Go.Proofs.Qxb6600857a.Common Go.Proofs.Qxb6600857a.NamPlain

theorem info9 : (Try.prog.info? 9).map (fun i => (i.zero, i.size, i.bytes)) = some (some (.string ByteArray.empty), 1, 16) := by kernel_rfl
theorem info2 : (Try.prog.info? 2).map (fun i => (i.zero, i.size, i.bytes)) = some (some (.int .i64 0), 1, 8) := by kernel_rfl

set_option maxHeartbeats 400000 in
theorem f17_any (x : Option Addr) (n cap : Nat) (f : Nat → ByteArray) (w : World) (h : Rd w x n fun j => .string (f j)) (hn : n ≤ 1048576) :
    Calls Try.prog 17 #[.slice x n cap] w fun e w' => ∃ y c, e = .returned (.slice y n c) ∧ Below w.heap.size w w' ∧ Rd w' y n (fun j => .string (f j)) := by
  obtain ⟨i0, hi, hz0, hz1, hz2⟩ := info_parts info9
  have q : ∀ (w : World) (a : Option Addr) (n c n' c' : Nat), (binOp .eql 27 (.slice a n c) (.slice none n' c')).run Try.prog w = .ok (.bool a.isNone) w := fun w a n c n' c' => Lib.run_eql_slice_nil w _ _ a n c n' c' Try.underlying27
  rcases x with _ | ad
  · obtain rfl := h.nil
    go_enter Try.func17, Try.ntmps17
    go_wp2
    go_ret
    exact ⟨none, 0, rfl, Below.refl _ _, h⟩
  · have hx : 0 < n → ∃ b off, ad = ⟨b, off, none⟩ ∧ b < w.heap.size ∧ ∀ j, j < n → w.cell? ⟨b, off + j, none⟩ = some (.string (f j)) := by
      intro h0; obtain ⟨b, off, e, r⟩ := h h0; exact ⟨b, off, by simpa using e, r⟩
    have HX : Hid _ := hx
    clear hx h
    go_enter Try.func17, Try.ntmps17
    go_wp2_with (refine wpList_make_full _ rfl (.tmp 8) (.tmp 8) 27 rfl w.heap.size 9 i0 (.string ByteArray.empty) 1 Try.underlying27 hi hz0 hz1 .i64 .i64 _ _ n rfl rfl rfl rfl (by rw [hz2]; omega) (by unfold maxLen; omega) (Nat.le_refl _) ?_; intro w1 hown hgr)
    go_loopw [4] (fun i wr => ∃ (k : Nat) (xs : List Value), k ≤ n ∧ i = .int .i64 k ∧ wr.ownsRow w.heap.size 9 1 (.slice (some ⟨w.heap.size, 0, none⟩) n n) n xs ∧ (∀ j, j < k → xs[j]? = some (.string (f j))) ∧ Below w.heap.size w wr) (fun i _ => n - (intOf i).toNat)
    case atStart => exact ⟨0, _, Nat.zero_le _, rfl, hown, fun j hj => absurd hj (by omega), (Below.refl _ _).grown hgr (Nat.le_refl _) (by simp)⟩
    case round =>
      obtain ⟨k, xs, hk, rfl, hownr, hxs, hbel⟩ := hrel
      by_cases hlt : k < n
      · obtain ⟨b, off, had, hbw, hcell⟩ := HX.out (by omega)
        subst had
        have hc : wr.cell? ⟨b, off + k, none⟩ = some (.string (f k)) := (hbel.cell (p := ⟨b, off + k, none⟩) hbw).trans (hcell k hlt)
        obtain ⟨old, hd⟩ : ∃ old, wr.cell? ⟨w.heap.size, k, none⟩ = some old := ⟨xs[k]'(by have := hownr.1; omega), by rw [hownr.cellAt k (by omega)]; simp⟩
        have hf : wr.frozen? ⟨w.heap.size, k, none⟩ = false := hownr.frozenAt k
        have R : Hid _ := owns_store (cell := fun j => .string (f j)) hownr hxs hlt hbel
        clear hown hgr hownr hxs hbel hcell
        go_wp2
        go_roundw
        case rel => exact ⟨k + 1, _, by omega, by go_num, R.out.1, R.out.2.1, R.out.2.2⟩
        case measure => simp [intOf]; omega
      · go_wp2
        go_ret
        exact ⟨_, _, rfl, hbel, rd_of_owns hownr fun j hj => hxs j (by omega)⟩

set_option maxHeartbeats 400000 in
theorem f18_any (x : Option Addr) (n cap : Nat) (f : Nat → Int) (w : World) (h : Rd w x n fun j => .int .i64 (f j)) (hn : n ≤ 1048576) :
    Calls Try.prog 18 #[.slice x n cap] w fun e w' => ∃ y c, e = .returned (.slice y n c) ∧ Below w.heap.size w w' ∧ Rd w' y n (fun j => .int .i64 (f j)) := by
  obtain ⟨i0, hi, hz0, hz1, hz2⟩ := info_parts info2
  have q : ∀ (w : World) (a : Option Addr) (n c n' c' : Nat), (binOp .eql 28 (.slice a n c) (.slice none n' c')).run Try.prog w = .ok (.bool a.isNone) w := fun w a n c n' c' => Lib.run_eql_slice_nil w _ _ a n c n' c' Try.underlying28
  rcases x with _ | ad
  · obtain rfl := h.nil
    go_enter Try.func18, Try.ntmps18
    go_wp2
    go_ret
    exact ⟨none, 0, rfl, Below.refl _ _, h⟩
  · have hx : 0 < n → ∃ b off, ad = ⟨b, off, none⟩ ∧ b < w.heap.size ∧ ∀ j, j < n → w.cell? ⟨b, off + j, none⟩ = some (.int .i64 (f j)) := by
      intro h0; obtain ⟨b, off, e, r⟩ := h h0; exact ⟨b, off, by simpa using e, r⟩
    have HX : Hid _ := hx
    clear hx h
    go_enter Try.func18, Try.ntmps18
    go_wp2_with (refine wpList_make_full _ rfl (.tmp 8) (.tmp 8) 28 rfl w.heap.size 2 i0 (.int .i64 0) 1 Try.underlying28 hi hz0 hz1 .i64 .i64 _ _ n rfl rfl rfl rfl (by rw [hz2]; omega) (by unfold maxLen; omega) (Nat.le_refl _) ?_; intro w1 hown hgr)
    go_loopw [4] (fun i wr => ∃ (k : Nat) (xs : List Value), k ≤ n ∧ i = .int .i64 k ∧ wr.ownsRow w.heap.size 2 1 (.slice (some ⟨w.heap.size, 0, none⟩) n n) n xs ∧ (∀ j, j < k → xs[j]? = some (.int .i64 (f j))) ∧ Below w.heap.size w wr) (fun i _ => n - (intOf i).toNat)
    case atStart => exact ⟨0, _, Nat.zero_le _, rfl, hown, fun j hj => absurd hj (by omega), (Below.refl _ _).grown hgr (Nat.le_refl _) (by simp)⟩
    case round =>
      obtain ⟨k, xs, hk, rfl, hownr, hxs, hbel⟩ := hrel
      by_cases hlt : k < n
      · obtain ⟨b, off, had, hbw, hcell⟩ := HX.out (by omega)
        subst had
        have hc : wr.cell? ⟨b, off + k, none⟩ = some (.int .i64 (f k)) := (hbel.cell (p := ⟨b, off + k, none⟩) hbw).trans (hcell k hlt)
        obtain ⟨old, hd⟩ : ∃ old, wr.cell? ⟨w.heap.size, k, none⟩ = some old := ⟨xs[k]'(by have := hownr.1; omega), by rw [hownr.cellAt k (by omega)]; simp⟩
        have hf : wr.frozen? ⟨w.heap.size, k, none⟩ = false := hownr.frozenAt k
        have R : Hid _ := owns_store (cell := fun j => .int .i64 (f j)) hownr hxs hlt hbel
        clear hown hgr hownr hxs hbel hcell
        go_wp2
        go_roundw
        case rel => exact ⟨k + 1, _, by omega, by go_num, R.out.1, R.out.2.1, R.out.2.2⟩
        case measure => simp [intOf]; omega
      · go_wp2
        go_ret
        exact ⟨_, _, rfl, hbel, rd_of_owns hownr fun j hj => hxs j (by omega)⟩


def AnyB (w : World) (p : Bool → Prop) (e : Ending) (w' : World) : Prop := ∃ b, e = .returned (.bool b) ∧ w' = w ∧ p b
theorem AnyB.of {w : World} {p : Bool → Prop} (b : Bool) (h : p b) : AnyB w p (.returned (.bool b)) w := ⟨b, rfl, rfl, h⟩

theorem f16_any (x y : Option Addr) (n m c d : Nat) (w : World) : 
    Calls Try.prog 16 #[.slice x n c, .slice y m d] w fun e w' => e = .returned (.int .i64 ((min n m : Nat) : Int)) ∧ w' = w := by
  by_cases h : m < n
  · have HM : Hid (min n m = m) := by unfold Hid; omega
    go_enter Try.func16, Try.ntmps16
    go_wp2
    go_ret
    exact ⟨ret_int (by rw [HM.out]), rfl⟩
  · have HM : Hid (min n m = n) := by unfold Hid; omega
    go_enter Try.func16, Try.ntmps16
    go_wp2
    go_ret
    exact ⟨ret_int (by rw [HM.out]), rfl⟩

set_option maxHeartbeats 400000 in
theorem f14_any (x y : Option Addr) (n m c d : Nat) (last : Int) (s : Nat → ByteArray) (w : World) (h : Rd w x n fun j => .string (s j)) : 
    Calls Try.prog 14 #[.slice x n c, .slice y m d, .int .i64 last] w fun e w' => AnyB w (fun _ => True) e w' := by
  have HX : Hid _ := h
  clear h
  by_cases hn : (1048576 : Int) < n
  · go_enter Try.func14, Try.ntmps14
    go_wp2
    go_ret
    exact AnyB.of _ trivial
  · go_enter Try.func14, Try.ntmps14
    go_wp2
    go_loop [7, 8] (fun t i => ∃ (k : Nat) (tv : Int), k ≤ n ∧ i = .int .i64 k ∧ t = .int .i64 tv ∧ 0 ≤ tv ∧ tv ≤ 1048576) (fun _ i => n - (intOf i).toNat)
    case atStart => exact ⟨0, n, Nat.zero_le _, rfl, rfl, by omega, by omega⟩
    case round =>
      obtain ⟨k, tv, hk, rfl, rfl, ht0, ht1⟩ := hrel
      by_cases hlt : k < n
      · obtain ⟨b, of, hx, hbw, hcell⟩ := HX.out (by omega)
        subst hx
        have hc : w.cell? ⟨b, of + k, none⟩ = some (.string (s k)) := hcell k (by omega)
        clear hcell
        go_wp2
        all_goals first
          | (go_ret; exact AnyB.of _ trivial)
          | (go_round
             case rel => exact ⟨k + 1, _, by omega, by go_num, rfl, by omega, by omega⟩
             case measure => simp [intOf]; omega)
      · by_cases hm : (1048576 : Int) < m
        · go_wp2
          go_ret
          exact AnyB.of _ trivial
        · go_wp2
          all_goals (go_ret; exact AnyB.of _ trivial)

set_option maxHeartbeats 400000 in
theorem f15_any (x y : Option Addr) (n m c d : Nat) (s : Nat → ByteArray) (w : World) (h : Rd w x n fun j => .string (s j)) : 
    Calls Try.prog 15 #[.slice x n c, .slice y m d] w fun e w' => AnyB w (fun b => b = false → n ≤ 65536 ∧ m ≤ 65536) e w' := by
  have HX : Hid _ := h
  clear h
  by_cases hn : (65536 : Int) < n
  · go_enter Try.func15, Try.ntmps15
    go_wp2
    go_ret
    exact AnyB.of true (fun h => by cases h)
  · by_cases hm : (65536 : Int) < m
    · go_enter Try.func15, Try.ntmps15
      go_wp2
      go_ret
      exact AnyB.of true (fun h => by cases h)
    · go_enter Try.func15, Try.ntmps15
      go_wp2
      go_loop [5, 6] (fun t i => ∃ (k : Nat) (tv : Int), k ≤ n ∧ i = .int .i64 k ∧ t = .int .i64 tv ∧ 0 ≤ tv ∧ tv ≤ 1048576) (fun _ i => n - (intOf i).toNat)
      case atStart => exact ⟨0, 8 * m, Nat.zero_le _, rfl, rfl, by omega, by omega⟩
      case round =>
        obtain ⟨k, tv, hk, rfl, rfl, ht0, ht1⟩ := hrel
        by_cases hlt : k < n
        · obtain ⟨b, of, hx, hbw, hcell⟩ := HX.out (by omega)
          subst hx
          have hc : w.cell? ⟨b, of + k, none⟩ = some (.string (s k)) := hcell k (by omega)
          clear hcell
          go_wp2
          all_goals first
            | (go_ret; exact AnyB.of true (fun h => by cases h))
            | (go_round
               case rel => exact ⟨k + 1, _, by omega, by go_num, rfl, by omega, by omega⟩
               case measure => simp [intOf]; omega)
        · go_wp2
          go_ret
          exact AnyB.of false (fun _ => by omega)
end Go.Proofs.Qxb6600857a.NamWalks

import Derived.Test.Qxb6600857aCommon
import Derived.Test.Qxb6600857aZeroPlain
namespace Go.Proofs.Qxb6600857a.ZeroWalks
open Go.RowKit Go.Proofs.Qxb6600857a.Common Go.Proofs.Qxb6600857a.ZeroPlain

theorem info5 : (Try.prog.info? 5).map (fun i => (i.zero, i.size, i.bytes)) = some (some (.int .u8 0), 1, 1) := by kernel_rfl

set_option maxHeartbeats 400000 in
theorem f9_any (x : Option Addr) (n cap : Nat) (f : Nat → Int) (w : World) (h : Rd w x n fun j => .int .u8 (f j)) (hn : n ≤ 1048576) :
    Calls Try.prog 9 #[.slice x n cap] w fun e w' => ∃ y c, e = .returned (.slice y n c) ∧ Below w.heap.size w w' ∧ Rd w' y n (fun j => .int .u8 (f j)) := by
  obtain ⟨i0, hi, hz0, hz1, hz2⟩ := info_parts info5
  have q : ∀ (w : World) (a : Option Addr) (n c n' c' : Nat), (binOp .eql 22 (.slice a n c) (.slice none n' c')).run Try.prog w = .ok (.bool a.isNone) w := fun w a n c n' c' => Lib.run_eql_slice_nil w _ _ a n c n' c' Try.underlying22
  rcases x with _ | ad
  · obtain rfl := h.nil
    go_enter Try.func9, Try.ntmps9
    go_wp2
    go_ret
    exact ⟨none, 0, rfl, Below.refl _ _, h⟩
  · have hx : 0 < n → ∃ b off, ad = ⟨b, off, none⟩ ∧ b < w.heap.size ∧ ∀ j, j < n → w.cell? ⟨b, off + j, none⟩ = some (.int .u8 (f j)) := by
      intro h0; obtain ⟨b, off, e, r⟩ := h h0; exact ⟨b, off, by simpa using e, r⟩
    have HX : Hid _ := hx
    clear hx h
    go_enter Try.func9, Try.ntmps9
    go_wp2_with (refine wpList_make_full _ rfl (.tmp 8) (.tmp 8) 22 rfl w.heap.size 5 i0 (.int .u8 0) 1 Try.underlying22 hi hz0 hz1 .i64 .i64 _ _ n rfl rfl rfl rfl (by rw [hz2]; omega) (by unfold maxLen; omega) (Nat.le_refl _) ?_; intro w1 hown hgr)
    go_loopw [4] (fun i wr => ∃ (k : Nat) (xs : List Value), k ≤ n ∧ i = .int .i64 k ∧ wr.ownsRow w.heap.size 5 1 (.slice (some ⟨w.heap.size, 0, none⟩) n n) n xs ∧ (∀ j, j < k → xs[j]? = some (.int .u8 (f j))) ∧ Below w.heap.size w wr) (fun i _ => n - (intOf i).toNat)
    case atStart => exact ⟨0, _, Nat.zero_le _, rfl, hown, fun j hj => absurd hj (by omega), (Below.refl _ _).grown hgr (Nat.le_refl _) (by simp)⟩
    case round =>
      obtain ⟨k, xs, hk, rfl, hownr, hxs, hbel⟩ := hrel
      by_cases hlt : k < n
      · obtain ⟨b, off, had, hbw, hcell⟩ := HX.out (by omega)
        subst had
        have hc : wr.cell? ⟨b, off + k, none⟩ = some (.int .u8 (f k)) := (hbel.cell (p := ⟨b, off + k, none⟩) hbw).trans (hcell k hlt)
        obtain ⟨old, hd⟩ : ∃ old, wr.cell? ⟨w.heap.size, k, none⟩ = some old := ⟨xs[k]'(by have := hownr.1; omega), by rw [hownr.cellAt k (by omega)]; simp⟩
        have hf : wr.frozen? ⟨w.heap.size, k, none⟩ = false := hownr.frozenAt k
        have R : Hid _ := owns_store (cell := fun j => .int .u8 (f j)) hownr hxs hlt hbel
        clear hown hgr hownr hxs hbel hcell
        go_wp2
        go_roundw
        case rel => exact ⟨k + 1, _, by omega, by go_num, R.out.1, R.out.2.1, R.out.2.2⟩
        case measure => simp [intOf]; omega
      · go_wp2
        go_ret
        exact ⟨_, _, rfl, hbel, rd_of_owns hownr fun j hj => hxs j (by omega)⟩

set_option maxHeartbeats 400000 in
theorem f22_any (x : Option Addr) (n cap : Nat) (f : Nat → Int) (off en : Int) (i : Nat) (w : World) (h : Rd w x n fun j => .int .u8 (f j)) (hn : n ≤ 1048576) (ht : Tail f n i)
    (h0 : 0 ≤ off) (h1 : off ≤ 9223372036853726719) :
    Calls Try.prog 22 #[.slice x n cap, .int .i64 off, .int .i64 en] w fun e w' => e = .returned (.bool (zf i off en)) ∧ w' = w := by
  have HX : Hid _ := h
  have HT : Hid _ := ht
  have hi := ht.1
  clear h ht
  go_enter Try.func22, Try.ntmps22
  go_wp2
  go_loop [7] (fun t => ∃ k : Nat, i ≤ k ∧ k ≤ n ∧ t = .int .i64 k) (fun t => (intOf t).toNat)
  case atStart => exact ⟨n, hi, Nat.le_refl _, rfl⟩
  case round =>
    obtain ⟨k, hik, hk, rfl⟩ := hrel
    by_cases hk0 : k = 0
    · subst hk0
      have hi0 : i = 0 := by omega
      subst hi0
      go_wp2
      go_ret
      exact ⟨rfl, rfl⟩
    · obtain ⟨m, rfl⟩ : ∃ m, k = m + 1 := ⟨k - 1, by omega⟩
      obtain ⟨b, of, hx, hbw, hcell⟩ := HX.out (by omega)
      subst hx
      have hc : w.cell? ⟨b, of + m, none⟩ = some (.int .u8 (f m)) := hcell m (by omega)
      clear hcell
      by_cases he : i = m + 1
      · have hne : (f m == 0) = false := by
          rcases HT.out.2.2 with h | h
          · omega
          · subst he; simpa using h
        subst he
        go_wp2
        go_ret
        exact ⟨ret_bool (by rw [zf_pos _ (by omega)]; rfl), rfl⟩
      · have heq : (f m == 0) = true := by
          have := HT.out.2.1 m (by omega) (by omega)
          simp [this]
        go_wp2
        go_round
        case rel => exact ⟨m, by omega, by omega, by go_num⟩
        case measure => simp [intOf]

theorem f10_any (x : Option Addr) (n cap : Nat) (f : Nat → Int) (off en : Int) (i : Nat) (w : World) (h : Rd w x n fun j => .int .u8 (f j)) (hn : n ≤ 1048576) (ht : Tail f n i)
    (h0 : 0 ≤ off) (h1 : off ≤ 9223372036853726719) :
    Calls Try.prog 10 #[.slice x n cap, .int .i64 off, .int .i64 en] w fun e w' => e = .returned (.bool (zf i off en)) ∧ w' = w := by
  go_enter Try.func10, Try.ntmps10
  go_wp2_with (go_at_call 22; refine (f22_any x n cap f off en i _ h hn ht h0 h1).mono ?_; rintro e w' ⟨rfl, rfl⟩)
  go_ret
  exact ⟨rfl, rfl⟩

set_option maxHeartbeats 400000 in
theorem f11_any (x : Option Addr) (n cap : Nat) (f : Nat → Int) (off en : Int) (i : Nat) (w : World) (h : Rd w x n fun j => .int .u8 (f j)) (hn : n ≤ 1048576) (ht : Tail f n i)
    (h0 : 0 ≤ off) (h1 : off ≤ 9223372036853726719) (he : en ≤ 9223372036854775807) :
    Calls Try.prog 11 #[.slice x n cap, .int .i64 off, .int .i64 en] w fun e w' => e = .returned (.bool (zf i off en)) ∧ w' = w := by
  have HX : Hid _ := h
  have HT : Hid _ := ht
  have hi := ht.1
  clear h ht
  go_enter Try.func11, Try.ntmps11
  go_wp2
  go_loop [7, 8] (fun l t => ∃ (k : Nat) (lv : Int), k ≤ n ∧ t = .int .i64 k ∧ l = .int .i64 lv ∧ -1 ≤ lv ∧ lv < k ∧ (i ≤ k → lv = (i : Int) - 1)) (fun _ t => n - (intOf t).toNat)
  case atStart => exact ⟨0, -1, Nat.zero_le _, rfl, rfl, by omega, by omega, fun h => by omega⟩
  case round =>
    obtain ⟨k, lv, hk, rfl, rfl, hl1, hl2, hl3⟩ := hrel
    have HL : Hid _ := hl3
    clear hl3
    by_cases hlt : k < n
    · obtain ⟨b, of, hx, hbw, hcell⟩ := HX.out (by omega)
      subst hx
      have hc : w.cell? ⟨b, of + k, none⟩ = some (.int .u8 (f k)) := hcell k (by omega)
      clear hcell
      by_cases hz : f k = 0
      · have hz' : (f k != 0) = false := by simp [hz]
        have hki : i ≠ k + 1 := by
          intro e
          rcases HT.out.2.2 with h | h
          · omega
          · subst e; exact h (by simpa using hz)
        have hz0 : Hid _ := hz
        clear hz
        go_wp2
        go_round
        case rel => exact ⟨k + 1, lv, by omega, by go_num, rfl, by omega, by omega, fun h => HL.out (by omega)⟩
        case measure => simp [intOf]; omega
      · have hz' : (f k != 0) = true := by simp [hz]
        have hki : k < i := by
          rcases Nat.lt_or_ge k i with h | h
          · exact h
          · exact absurd (HT.out.2.1 k h hlt) hz
        clear hz
        go_wp2
        go_round
        case rel => exact ⟨k + 1, k, by omega, by go_num, rfl, by omega, by omega, fun h => by omega⟩
        case measure => simp [intOf]; omega
    · have hlv : lv = (i : Int) - 1 := HL.out (by omega)
      subst hlv
      by_cases hi0 : i = 0
      · subst hi0
        go_wp2
        go_ret
        exact ⟨rfl, rfl⟩
      · have hi1 : 1 ≤ i := by omega
        by_cases hen : en ≤ 0
        · have HZ : Hid _ := zf_model_neg i off en h0 hi0 hen
          clear hi0
          go_wp2
          go_ret
          exact ⟨ret_bool HZ.out.symm, rfl⟩
        · have HZ : Hid _ := zf_model_pos i off en hi0
          clear hi0
          go_wp2
          go_ret
          exact ⟨ret_bool HZ.out.symm, rfl⟩

theorem f8_no (x : Option Addr) (n cap : Nat) (off en : Int) (w : World) (h : (1048576 : Int) < n) :
    Calls Try.prog 8 #[.slice x n cap, .int .i64 off, .int .i64 en] w fun e w' => e = .returned (.bool false) ∧ w' = w := by
  go_enter Try.func8, Try.ntmps8
  go_wp2
  go_ret
  exact ⟨rfl, rfl⟩
theorem f8_yes (x : Option Addr) (n cap : Nat) (off en : Int) (w : World) (h : (n : Int) ≤ 1048576) :
    Calls Try.prog 8 #[.slice x n cap, .int .i64 off, .int .i64 en] w fun e w' => e = .returned (.bool true) ∧ w' = w := by
  go_enter Try.func8, Try.ntmps8
  go_wp2
  go_ret
  exact ⟨rfl, rfl⟩

set_option maxHeartbeats 400000 in
theorem f3_any (x : Option Addr) (n cap : Nat) (f : Nat → Int) (off en : Int) (w : World) (h : Rd w x n fun j => .int .u8 (f j)) (he : en ≤ 9223372036854775807) :
    Calls Try.prog 3 #[.slice x n cap, .int .i64 off, .int .i64 en] w fun e w' => e = .returned (.bool true) ∧ Below w.heap.size w w' := by
  by_cases hn : (1048576 : Int) < n
  · go_enter Try.func3, Try.ntmps3
    go_wp2_with (go_at_call 8; refine (f8_no _ _ _ _ _ _ hn).mono ?_; rintro e w' ⟨rfl, rfl⟩)
    go_ret
    exact ⟨rfl, Below.refl _ _⟩
  · have hn' : (n : Int) ≤ 1048576 := by omega
    by_cases h0 : off < 0
    · go_enter Try.func3, Try.ntmps3
      go_wp2_with (go_at_call 8; refine (f8_yes _ _ _ _ _ _ hn').mono ?_; rintro e w' ⟨rfl, rfl⟩)
      go_ret
      exact ⟨rfl, Below.refl _ _⟩
    · by_cases h1 : 9223372036853726719 < off
      · go_enter Try.func3, Try.ntmps3
        go_wp2_with (go_at_call 8; refine (f8_yes _ _ _ _ _ _ hn').mono ?_; rintro e w' ⟨rfl, rfl⟩)
        go_ret
        exact ⟨rfl, Below.refl _ _⟩
      · obtain ⟨i, ht⟩ := tail_exists f n
        have HX : Hid _ := h
        have HT : Hid _ := ht
        clear h ht
        go_enter Try.func3, Try.ntmps3
        go_wp2_with fail
        refine (f8_yes _ _ _ _ _ _ hn').mono ?_; rintro e w' ⟨rfl, rfl⟩
        go_wp2_with fail
        refine (f9_any x n cap f _ HX.out (by omega)).mono ?_; rintro e w1 ⟨y, c, rfl, hb, hr⟩
        have HB : Hid _ := hb
        have HR : Hid _ := hr
        clear hb hr
        go_wp2_with fail
        refine (f10_any y n c f off en i _ HR.out (by omega) HT.out (by omega) (by omega)).mono ?_; rintro e w2 ⟨rfl, rfl⟩
        go_wp2_with fail
        refine (f11_any y n c f off en i _ HR.out (by omega) HT.out (by omega) (by omega) he).mono ?_; rintro e w2 ⟨rfl, rfl⟩
        go_wp2
        go_ret
        exact ⟨ret_bool (by simp), HB.out⟩
end Go.Proofs.Qxb6600857a.ZeroWalks

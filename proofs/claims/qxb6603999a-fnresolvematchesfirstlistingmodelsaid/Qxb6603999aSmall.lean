import Derived.Test.Qxb6603999aCommon
namespace Go.Proofs.Qxb6603999a.Small
open Go.RowKit Go.Proofs.Qxb6603999a.Common

/-- what resolveAddStrings answers -/
def Added (n : Nat) (_total : Int) (w : World) (e : Ending) (w' : World) : Prop :=
  ∃ (t : Int) (b : Bool), e = .returned (.tuple #[.int .i64 t, .bool b]) ∧ w' = w ∧ (b = true → 0 ≤ t ∧ t ≤ 1048576 ∧ n ≤ 65536)
theorem Added.no {n : Nat} {total t : Int} {w : World} : Added n total w (.returned (.tuple #[.int .i64 t, .bool false])) w := ⟨t, false, rfl, rfl, fun h => by cases h⟩
theorem Added.yes {n : Nat} {total t : Int} {w : World} (h : 0 ≤ t ∧ t ≤ 1048576 ∧ n ≤ 65536) : Added n total w (.returned (.tuple #[.int .i64 t, .bool true])) w := ⟨t, true, rfl, rfl, fun _ => h⟩

set_option maxHeartbeats 400000 in
theorem f16_any (x : Option Addr) (n c B : Nat) (s : Nat → ByteArray) (total : Int) (w : World) (h : RdS w B x n s) (h0 : 0 ≤ total) (h1 : total ≤ 4194304) :
    Calls Try.prog 16 #[.int .i64 total, .slice x n c] w fun e w' => Added n total w e w' := by
  have HX := hid h
  clear h
  by_cases hn : (1048576 : Int) < n
  · go_enter Try.func16, Try.ntmps16
    go_wp2
    go_ret2
    exact Added.no
  · by_cases ht : (1048576 : Int) < total + 16 * n
    · go_enter Try.func16, Try.ntmps16
      go_wp2
      go_ret2
      exact Added.no
    · go_enter Try.func16, Try.ntmps16
      go_wp2
      go_loop [0, 6] (fun t i => ∃ (k : Nat) (tv : Int), k ≤ n ∧ i = .int .i64 k ∧ t = .int .i64 tv ∧ 0 ≤ tv ∧ tv ≤ 1048576) (fun _ i => n - (intOf i).toNat)
      case atStart => exact ⟨0, total + 16 * n, Nat.zero_le _, rfl, rfl, by omega, by omega⟩
      case round =>
        obtain ⟨k, tv, hk, rfl, rfl, ht0, ht1⟩ := hrel
        by_cases hlt : k < n
        · obtain ⟨b, of, hx, -, -, hc⟩ := HX.out.at1 hlt
          subst hx
          go_wp2
          all_goals first
            | (go_ret2; exact Added.no)
            | (go_round
               case rel => exact ⟨k + 1, _, by omega, by go_num, rfl, by omega, by omega⟩
               case measure => simp [intOf]; omega)
        · go_wp2
          go_ret2
          exact Added.yes ⟨ht0, ht1, by omega⟩

/-- What resolveCopyStrings leaves: the same strings, nil where nil came in, in a row of its own. -/
def Copied (x : Option Addr) (n : Nat) (s : Nat → ByteArray) (w : World) (e : Ending) (w' : World) : Prop :=
  ∃ y c, e = .returned (.slice y n c) ∧ (y = none ↔ x = none) ∧ Below w.heap.size w w' ∧ w'.ownsRow w.heap.size 9 1 (.slice y n c) n (vals n fun j => .string (s j))

theorem owns_store {w w0 : World} {B e n cap k : Nat} {xs : List Value} {cell : Nat → Value} (h : w.ownsRow B e 1 (.slice (some ⟨B, 0, none⟩) n cap) n xs) (hx : ∀ j, j < k → xs[j]? = some (cell j)) (hk : k < n) (hb : Below B w0 w) :
    (w.setCell ⟨B, k, none⟩ (cell k)).ownsRow B e 1 (.slice (some ⟨B, 0, none⟩) n cap) n (xs.set k (cell k)) ∧ (∀ j, j < k + 1 → (xs.set k (cell k))[j]? = some (cell j)) ∧ Below B w0 (w.setCell ⟨B, k, none⟩ (cell k)) := by
  refine ⟨(h.stored k (cell k)).1, fun j hj => ?_, hb.setCell (Nat.le_refl _) _⟩
  have hl := h.1
  by_cases hjk : j = k
  · subst hjk; rw [List.getElem?_set_self (by omega)]
  · rw [List.getElem?_set_ne (by omega)]; exact hx j (by omega)

set_option maxHeartbeats 400000 in
theorem f17_any (x : Option Addr) (n cap B : Nat) (f : Nat → ByteArray) (w : World) (h : RdS w B x n f) (hn : n ≤ 1048576) :
    Calls Try.prog 17 #[.slice x n cap] w fun e w' => Copied x n f w e w' := by
  obtain ⟨i0, hi, hz0, hz1, hz2⟩ := info_parts info9
  have q := eqnil 24 9 Try.underlying24
  rcases x with _ | ad
  · obtain rfl := h.nil
    go_enter Try.func17, Try.ntmps17
    go_wp2
    go_ret
    exact ⟨none, 0, rfl, by simp, Below.refl _ _, World.ownsRow_nil _ _ _ _⟩
  · have HX := hid h
    clear h
    go_enter Try.func17, Try.ntmps17
    go_wp2_with (refine wpList_make_full _ rfl (.tmp 8) (.tmp 8) 24 rfl w.heap.size 9 i0 (.string ByteArray.empty) 1 Try.underlying24 hi hz0 hz1 .i64 .i64 _ _ n rfl rfl rfl rfl (by rw [hz2]; omega) (by unfold maxLen; omega) (Nat.le_refl _) ?_; intro w1 hown hgr)
    go_loopw [4] (fun i wr => ∃ (k : Nat) (xs : List Value), k ≤ n ∧ i = .int .i64 k ∧ wr.ownsRow w.heap.size 9 1 (.slice (some ⟨w.heap.size, 0, none⟩) n n) n xs ∧ (∀ j, j < k → xs[j]? = some (.string (f j))) ∧ Below w.heap.size w wr) (fun i _ => n - (intOf i).toNat)
    case atStart => exact ⟨0, _, Nat.zero_le _, rfl, hown, fun j hj => absurd hj (by omega), (Below.refl _ _).grown hgr (Nat.le_refl _) (by simp)⟩
    case round =>
      obtain ⟨k, xs, hk, rfl, hownr, hxs, hbel⟩ := hrel
      by_cases hlt : k < n
      · obtain ⟨b, off, had, -, hbw, hcell⟩ := HX.out.at1 hlt
        simp only [Option.some.injEq] at had
        subst had
        have hc : wr.cell? ⟨b, off + k, none⟩ = some (.string (f k)) := (hbel.cell (p := ⟨b, off + k, none⟩) hbw).trans hcell
        obtain ⟨old, hd⟩ : ∃ old, wr.cell? ⟨w.heap.size, k, none⟩ = some old := ⟨xs[k]'(by have := hownr.1; omega), by rw [hownr.cellAt k (by omega)]; simp⟩
        have hf : wr.frozen? ⟨w.heap.size, k, none⟩ = false := hownr.frozenAt k
        have R := hid (owns_store (cell := fun j => .string (f j)) hownr hxs hlt hbel)
        clear hown hgr hownr hxs hbel hcell
        go_wp2
        go_roundw
        case rel => exact ⟨k + 1, _, by omega, by go_num, R.out.1, R.out.2.1, R.out.2.2⟩
        case measure => simp [intOf]; omega
      · have hkn : k = n := by omega
        subst hkn
        have hv := vals_of (f := fun j => .string (f j)) (by simpa using hownr.1) hxs
        subst hv
        go_wp2
        go_ret
        exact ⟨_, _, rfl, by simp, hbel, hownr⟩

theorem Copied.rd {w : World} {B n c : Nat} {y : Option Addr} {s : Nat → ByteArray} (h : w.ownsRow B 9 1 (.slice y n c) n (vals n fun j => .string (s j))) : RdS w B y n s :=
  rd_of_owns h fun j hj => vals_at (by omega)
end Go.Proofs.Qxb6603999a.Small

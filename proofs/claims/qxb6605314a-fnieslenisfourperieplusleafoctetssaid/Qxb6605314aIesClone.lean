import Derived.Test.Qxb6605314aIesTree
import Derived.Laws.CopyOwn
namespace Go.Proofs.Qxb6605314a.IesClone
open Go.RowKit Go.Proofs.Qxb6605314a.IesTree

theorem info5 : (Try.prog.info? 5).map (fun i => (i.zero, i.size, i.bytes)) = some (some (.int .u8 0), 1, 1) := by kernel_rfl
theorem size5 : (Try.prog.info? 5).map (·.size) = some 1 := by kernel_rfl

theorem made_row {w1 : World} {B n : Nat} {xs : List Value} (hown : w1.ownsRow B 5 1 (.slice (some ⟨B, 0, none⟩) n n) n xs) : ∃ cur : List Value, w1.heap[B]? = some (.cells cur.toArray 5 (0, 0)) ∧ cur.length = n := by
  rcases hown.2 with ⟨h1, _⟩ | ⟨g, cap, cur, h1, h2, h3, h4, h5, h6, h7⟩
  · simp at h1
  · simp only [Value.slice.injEq, Option.some.injEq, Addr.mk.injEq, and_true, true_and] at h1
    obtain ⟨rfl, rfl⟩ := h1
    exact ⟨cur.toList, by simpa using h3, by simpa using h6⟩
theorem copy_src {w w1 : World} {ad : Addr} {n : Nat} {f : Nat → Int} (h : 0 < n → ∃ b off, some ad = some ⟨b, off, none⟩ ∧ b < w.heap.size ∧ ∀ j, j < n → w.cell? ⟨b, off + j, none⟩ = some (.int .u8 (f j))) (hb : Below w.heap.size w w1) (hn : 0 < n) :
    ∀ j v, ((List.range n).map fun j => Value.int .u8 (f j))[j]? = some v → w1.cell? (ad.add j) = some v := by
  intro j v hj
  obtain ⟨b, off, ha, hlt, hc⟩ := h hn
  simp only [Option.some.injEq] at ha
  subst ha
  have hjn : j < n := by
    rcases Nat.lt_or_ge j n with h | h
    · exact h
    · rw [List.getElem?_eq_none (by simpa using h)] at hj; cases hj
  rw [List.getElem?_map, List.getElem?_range hjn] at hj
  simp only [Option.map_some, Option.some.injEq] at hj
  subst hj
  rw [Go.WideShapes.add_plain, hb.cell (p := ⟨b, off + j, none⟩) hlt]
  exact hc j hjn

theorem ints_one (f : Nat → Int) (n : Nat) : ∀ v ∈ (List.range n).map (fun j => Value.int .u8 (f j)), v.oneCell' = true := by
  intro v hv
  obtain ⟨j, _, rfl⟩ := List.mem_map.1 hv
  rfl

set_option maxHeartbeats 400000 in
theorem f17_any (x : Option Addr) (n c : Nat) (w : World) (h : Oct w x n) (hn : n ≤ 1048576) :
    Calls Try.prog 17 #[.slice x n c] w fun e w' => ∃ y d, e = .returned (.slice y n d) ∧ Below w.heap.size w w' := by
  obtain ⟨i0, hi, hz0, hz1, hz2⟩ := info_parts info5
  have q : ∀ (w : World) (a : Option Addr) (n c n' c' : Nat), (binOp .eql 36 (.slice a n c) (.slice none n' c')).run Try.prog w = .ok (.bool a.isNone) w := fun w a n c n' c' => Lib.run_eql_slice_nil w _ _ a n c n' c' Try.underlying36
  rcases x with _ | ad
  · obtain rfl := h.nil
    go_enter Try.func17, Try.ntmps17
    go_wp2
    go_ret
    exact ⟨none, 0, rfl, Below.refl _ _⟩
  · obtain ⟨f, hx⟩ := h
    have HX : Hid _ := hx
    clear hx
    go_enter Try.func17, Try.ntmps17
    go_wp2_with (first | (refine wpList_copy_splice rfl (.tmp 9) (.tmp 10) 36 36 rfl 5 Try.underlying36 size5 (some ⟨w.heap.size, 0, none⟩) (some ad) n n n c rfl rfl w.heap.size 0 cur 5 HC.out ((List.range n).map fun j => .int .u8 (f j)) (by simp) (fun h0 => ⟨rfl, ad, rfl, copy_src HX.out hb1 (by simpa using h0)⟩) (by simp; omega) (ints_one f n) w.heap.size w hb1 (Nat.le_refl _) ?_; intro w2 hw2 hb2) | (refine wpList_make_full _ rfl (.tmp 7) (.tmp 7) 36 rfl w.heap.size 5 i0 (.int .u8 0) 1 Try.underlying36 hi hz0 hz1 .i64 .i64 _ _ n rfl rfl rfl rfl (by rw [hz2]; omega) (by unfold maxLen; omega) (Nat.le_refl _) ?_; intro w1 hown hgr; obtain ⟨cur, hcur, hcs⟩ := made_row hown; have hb1 : Below w.heap.size w w1 := (Below.refl _ _).grown hgr (Nat.le_refl _) (by simp); have HC : Hid _ := hcur; clear hcur hown hgr))
    go_ret
    exact ⟨_, _, rfl, hb2⟩
end Go.Proofs.Qxb6605314a.IesClone

/- Plain mathematics on 'those of the first n whose number is above last': no Go in sight. -/
namespace Go.Proofs.Qxb6600857a.NamPlain

def filt (z : Nat → Int) (last : Int) (n : Nat) : List Nat := (List.range n).filter fun j => decide (last < z j)

theorem filt_succ_yes (z : Nat → Int) (last : Int) (n : Nat) (h : last < z n) : filt z last (n + 1) = filt z last n ++ [n] := by
  unfold filt; rw [List.range_succ, List.filter_append]; simp [h]
theorem filt_succ_no (z : Nat → Int) (last : Int) (n : Nat) (h : ¬ last < z n) : filt z last (n + 1) = filt z last n := by
  unfold filt; rw [List.range_succ, List.filter_append]; simp [h]
theorem filt_len (z : Nat → Int) (last : Int) (n : Nat) : (filt z last n).length ≤ n := by
  unfold filt
  have := List.length_filter_le (fun j => decide (last < z j)) (List.range n)
  simpa using this
/-- On sorted numbers it is a tail. -/
theorem filt_tail (z : Nat → Int) (last : Int) (lo : Nat) (h1 : ∀ j, j < lo → z j ≤ last) : ∀ n, lo ≤ n → (∀ j, lo ≤ j → j < n → last < z j) → filt z last n = List.range' lo (n - lo)
  | 0, hn, _ => by
    have : lo = 0 := by omega
    subst this; rfl
  | n + 1, hn, h2 => by
    by_cases e : lo = n + 1
    · subst e
      have : ∀ m, m ≤ n + 1 → filt z last m = [] := by
        intro m
        induction m with
        | zero => intro _; rfl
        | succ m ih => intro hm; rw [filt_succ_no _ _ _ (by have := h1 m (by omega); omega)]; exact ih (by omega)
      rw [this _ (Nat.le_refl _)]; simp
    · rw [filt_succ_yes _ _ _ (h2 n (by omega) (by omega)), filt_tail z last lo h1 n (by omega) (fun j a b => h2 j a (by omega))]
      have : n + 1 - lo = (n - lo) + 1 := by omega
      rw [this, List.range'_concat]
      simp; omega
theorem filt_tail_len (z : Nat → Int) (last : Int) (lo n : Nat) (h1 : ∀ j, j < lo → z j ≤ last) (hn : lo ≤ n) (h2 : ∀ j, lo ≤ j → j < n → last < z j) : (filt z last n).length = n - lo := by
  rw [filt_tail z last lo h1 n hn h2]; simp
theorem filt_tail_at (z : Nat → Int) (last : Int) (lo n : Nat) (h1 : ∀ j, j < lo → z j ≤ last) (hn : lo ≤ n) (h2 : ∀ j, lo ≤ j → j < n → last < z j) (k : Nat) (hk : k < n - lo) : (filt z last n)[k]? = some (lo + k) := by
  rw [filt_tail z last lo h1 n hn h2]; simp [hk]
/-- Neighbours in order: all in order. -/
theorem sorted_of (z : Nat → Int) (n : Nat) (h : ∀ i, 1 ≤ i → i < n → z (i - 1) ≤ z i) : ∀ i j, i ≤ j → j < n → z i ≤ z j := by
  intro i j hij
  induction j with
  | zero => intro _; have : i = 0 := by omega
            subst this; omega
  | succ j ih =>
    intro hj
    by_cases e : i = j + 1
    · subst e; omega
    · have h1 := ih (by omega) (by omega)
      have h2 := h (j + 1) (by omega) hj
      simp at h2; omega
end Go.Proofs.Qxb6600857a.NamPlain

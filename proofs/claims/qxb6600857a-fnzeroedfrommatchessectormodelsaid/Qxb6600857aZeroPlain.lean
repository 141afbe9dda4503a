/- Plain mathematics on the zeros at a row's end: no Go in sight. -/
namespace Go.Proofs.Qxb6600857a.ZeroPlain

/-- 'i' is where the zeros at the end of f 0, .., f (n - 1) start. -/
def Tail (f : Nat → Int) (n i : Nat) : Prop := i ≤ n ∧ (∀ j, i ≤ j → j < n → f j = 0) ∧ (i = 0 ∨ f (i - 1) ≠ 0)

theorem tail_exists (f : Nat → Int) : ∀ n, ∃ i, Tail f n i
  | 0 => ⟨0, Nat.le_refl _, fun _ _ h => absurd h (by omega), .inl rfl⟩
  | n + 1 => by
    by_cases h : f n = 0
    · obtain ⟨i, h1, h2, h3⟩ := tail_exists f n
      refine ⟨i, by omega, fun j hj hn => ?_, h3⟩
      by_cases e : j = n
      · subst e; exact h
      · exact h2 j hj (by omega)
    · exact ⟨n + 1, Nat.le_refl _, fun j hj hn => absurd hn (by omega), .inr (by simpa using h)⟩

/-- what zeroedFrom answers -/
def zf (i : Nat) (off en : Int) : Bool := if i = 0 then true else decide ((off + i + 512 - 1) / 512 * 512 < en)
theorem zf_zero (off en : Int) : zf 0 off en = true := rfl
theorem zf_pos (i : Nat) (h : i ≠ 0) (off en : Int) : zf i off en = decide ((off + i + 512 - 1) / 512 * 512 < en) := by simp [zf, h]
theorem zf_model_neg (i : Nat) (off en : Int) (h0 : 0 ≤ off) (h : i ≠ 0) (he : en ≤ 0) : zf i off en = false := by
  rw [zf_pos i h]
  exact decide_eq_false (by omega)
theorem zf_model_pos (i : Nat) (off en : Int) (h : i ≠ 0) : zf i off en = decide (off + ((i : Int) - 1) + 1 ≤ (en - 1) / 512 * 512) := by
  rw [zf_pos i h]
  rw [Bool.eq_iff_iff]
  simp only [decide_eq_true_eq]
  omega
end Go.Proofs.Qxb6600857a.ZeroPlain

import Derived.Laws.Strings
/- Plain mathematics: the first listing of a node's targets and of its missing ids. No Go in sight. -/
namespace Go.Proofs.Qxb6603999a.Model

theorem eqs (a b : ByteArray) : (a.toList == b.toList) = decide (a = b) := by
  rw [Bool.eq_iff_iff]
  simp only [beq_iff_eq, decide_eq_true_eq, Go.ByteArray.toList_eq]
  constructor
  · intro h
    obtain ⟨⟨a⟩⟩ := a
    obtain ⟨⟨b⟩⟩ := b
    simp at h
    rw [h]
  · intro h; rw [h]

/-- The node that an id leads to, if it is not the node's own and the index knows it. -/
def tg (idv : ByteArray) (ok : ByteArray → Bool) (val : ByteArray → Int) (x : ByteArray) : Option Int := if x = idv then none else if ok x = true then some (val x) else none

section
variable (idv : ByteArray) (s : Nat → ByteArray) (ok : ByteArray → Bool) (val : ByteArray → Int)
def du : Nat → List Int
  | 0 => []
  | k + 1 => match tg idv ok val (s k) with
    | some d => if d ∈ du k then du k else du k ++ [d]
    | none => du k
def mu : Nat → List ByteArray
  | 0 => []
  | k + 1 => if s k = idv then mu k else if ok (s k) = true then mu k else if (mu k).any (fun y => decide (y = s k)) = true then mu k else mu k ++ [s k]
def su : Nat → Bool
  | 0 => false
  | k + 1 => su k || decide (s k = idv)
end

variable {idv : ByteArray} {s : Nat → ByteArray} {ok : ByteArray → Bool} {val : ByteArray → Int} {k : Nat}

theorem tg_own (h : s k = idv) : tg idv ok val (s k) = none := by simp [tg, h]
theorem tg_no (h' : ok (s k) = false) : tg idv ok val (s k) = none := by simp [tg, h']
theorem tg_yes (h : s k ≠ idv) (h' : ok (s k) = true) : tg idv ok val (s k) = some (val (s k)) := by simp [tg, h, h']

theorem du_none (h : tg idv ok val (s k) = none) : du idv s ok val (k + 1) = du idv s ok val k := by simp [du, h]
theorem du_old {d : Int} (h : tg idv ok val (s k) = some d) (hd : d ∈ du idv s ok val k) : du idv s ok val (k + 1) = du idv s ok val k := by simp [du, h, hd]
theorem du_new {d : Int} (h : tg idv ok val (s k) = some d) (hd : d ∉ du idv s ok val k) : du idv s ok val (k + 1) = du idv s ok val k ++ [d] := by simp [du, h, hd]
theorem mu_own (h : s k = idv) : mu idv s ok (k + 1) = mu idv s ok k := by simp [mu, h]
theorem mu_ok (h : ok (s k) = true) : mu idv s ok (k + 1) = mu idv s ok k := by simp [mu, h]
theorem any_mem (l : List ByteArray) (x : ByteArray) : l.any (fun y => decide (y = x)) = true ↔ x ∈ l := by simp
theorem mu_old (h : s k ∈ mu idv s ok k) : mu idv s ok (k + 1) = mu idv s ok k := by
  simp only [mu]
  rw [if_pos ((any_mem _ _).2 h)]
  split
  · rfl
  · split <;> rfl
theorem mu_new (h : s k ≠ idv) (h1 : ok (s k) = false) (h2 : s k ∉ mu idv s ok k) : mu idv s ok (k + 1) = mu idv s ok k ++ [s k] := by
  simp only [mu]
  rw [if_neg h, if_neg (by simp [h1]), if_neg (fun h => h2 ((any_mem _ _).1 h))]

theorem du_len : ∀ k, (du idv s ok val k).length ≤ k
  | 0 => Nat.le_refl _
  | k + 1 => by
    have := du_len k
    cases h : tg idv ok val (s k) with
    | none => rw [du_none h]; omega
    | some d =>
      by_cases hd : d ∈ du idv s ok val k
      · rw [du_old h hd]; omega
      · rw [du_new h hd]; simp; omega
theorem mu_len : ∀ k, (mu idv s ok k).length ≤ k
  | 0 => Nat.le_refl _
  | k + 1 => by
    have := mu_len k
    simp only [mu]
    split
    · omega
    · split
      · omega
      · split
        · omega
        · simp; omega

theorem mem_du {d : Int} : ∀ k, d ∈ du idv s ok val k ↔ ∃ j, j < k ∧ tg idv ok val (s j) = some d
  | 0 => by simp [du]
  | k + 1 => by
    have ih := mem_du (d := d) k
    constructor
    · intro h
      cases ht : tg idv ok val (s k) with
      | none => rw [du_none ht] at h; obtain ⟨j, h1, h2⟩ := ih.1 h; exact ⟨j, by omega, h2⟩
      | some d' =>
        by_cases hd : d' ∈ du idv s ok val k
        · rw [du_old ht hd] at h; obtain ⟨j, h1, h2⟩ := ih.1 h; exact ⟨j, by omega, h2⟩
        · rw [du_new ht hd] at h
          rcases List.mem_append.1 h with h | h
          · obtain ⟨j, h1, h2⟩ := ih.1 h; exact ⟨j, by omega, h2⟩
          · simp at h; subst h; exact ⟨k, by omega, ht⟩
    · rintro ⟨j, h1, h2⟩
      by_cases e : j = k
      · subst e
        by_cases hd : d ∈ du idv s ok val j
        · rw [du_old h2 hd]; exact hd
        · rw [du_new h2 hd]; simp
      · have h := ih.2 ⟨j, by omega, h2⟩
        cases ht : tg idv ok val (s k) with
        | none => rw [du_none ht]; exact h
        | some d' =>
          by_cases hd : d' ∈ du idv s ok val k
          · rw [du_old ht hd]; exact h
          · rw [du_new ht hd]; exact List.mem_append_left _ h

theorem mem_mu {x : ByteArray} : ∀ k, x ∈ mu idv s ok k ↔ ∃ j, j < k ∧ s j = x ∧ x ≠ idv ∧ ok x = false
  | 0 => by simp [mu]
  | k + 1 => by
    have ih := mem_mu (x := x) k
    by_cases h1 : s k = idv
    · rw [mu_own h1, ih]
      exact ⟨fun ⟨j, a, b⟩ => ⟨j, by omega, b⟩, fun ⟨j, a, b, c, d⟩ => ⟨j, by
        have : j ≠ k := by intro e; subst e; exact c (b.symm.trans h1)
        omega, b, c, d⟩⟩
    · cases h2 : ok (s k) with
      | true =>
        rw [mu_ok h2, ih]
        exact ⟨fun ⟨j, a, b⟩ => ⟨j, by omega, b⟩, fun ⟨j, a, b, c, d⟩ => ⟨j, by
          have : j ≠ k := by intro e; subst e; rw [b, d] at h2; cases h2
          omega, b, c, d⟩⟩
      | false =>
        by_cases h3 : s k ∈ mu idv s ok k
        · rw [mu_old h3]
          constructor
          · intro h; obtain ⟨j, a, b⟩ := ih.1 h; exact ⟨j, by omega, b⟩
          · rintro ⟨j, a, b, c, d⟩
            by_cases e : j = k
            · subst e; rw [← b]; exact h3
            · exact ih.2 ⟨j, by omega, b, c, d⟩
        · rw [mu_new h1 h2 h3]
          constructor
          · intro h
            rcases List.mem_append.1 h with h | h
            · obtain ⟨j, a, b⟩ := ih.1 h; exact ⟨j, by omega, b⟩
            · simp at h; subst h; exact ⟨k, by omega, rfl, h1, h2⟩
          · rintro ⟨j, a, b, c, d⟩
            by_cases e : j = k
            · subst e; rw [b]; simp
            · exact List.mem_append_left _ (ih.2 ⟨j, by omega, b, c, d⟩)

theorem su_of : ∀ k, su idv s k = true ↔ ∃ j, j < k ∧ s j = idv
  | 0 => by simp [su]
  | k + 1 => by
    have ih := su_of k
    simp only [su, Bool.or_eq_true, decide_eq_true_eq]
    rw [ih]
    constructor
    · rintro (⟨j, a, b⟩ | h)
      · exact ⟨j, by omega, b⟩
      · exact ⟨k, by omega, h⟩
    · rintro ⟨j, a, b⟩
      by_cases e : j = k
      · subst e; exact .inr b
      · exact .inl ⟨j, by omega, b⟩

theorem du_nodup : ∀ k, (du idv s ok val k).Nodup
  | 0 => by simp [du]
  | k + 1 => by
    have ih := du_nodup k
    cases h : tg idv ok val (s k) with
    | none => rw [du_none h]; exact ih
    | some d =>
      by_cases hd : d ∈ du idv s ok val k
      · rw [du_old h hd]; exact ih
      · rw [du_new h hd]
        rw [List.nodup_append]
        exact ⟨ih, by simp, fun a ha b hb => by simp at hb; subst hb; intro e; subst e; exact hd ha⟩
end Go.Proofs.Qxb6603999a.Model

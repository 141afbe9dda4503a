import Derived.Test.Qxb6603999aFam
import Derived.Test.Qxb6603999aIdx
import Derived.Test.Qxb6603999aDeps
import Derived.Test.Qxb6603999aCopyP
namespace Go.Proofs.Qxb6603999a.Res
open Go.RowKit Go.Proofs.Qxb6603999a.Common Go.Proofs.Qxb6603999a.Model Go.Proofs.Qxb6603999a.Target Go.Proofs.Qxb6603999a.Fit Go.Proofs.Qxb6603999a.IdxFits Go.Proofs.Qxb6603999a.Deps Go.Proofs.Qxb6603999a.Miss Go.Proofs.Qxb6603999a.CopyP Go.Proofs.Qxb6603999a.MSet Go.Proofs.Qxb6603999a.Fam

section
variable (a : Nds) (ok : ByteArray → Bool) (val : ByteArray → Int)
def D (i k : Nat) : List Int := du (a.id i) (a.s i) ok val k
def M (i k : Nat) : List (ByteArray × ByteArray) := me (a.id i) (a.s i) ok k
def U (i : Nat) : Bool := su (a.id i) (a.s i) (a.m i)
def dl (i k i' : Nat) : List Int := if i' < i then D a ok val i' (a.m i') else if i' = i then D a ok val i k else []
def el (i k d : Nat) : List Int := ((List.range i).filter fun i' => decide ((d : Int) ∈ D a ok val i' (a.m i'))).map (fun i' : Nat => (i' : Int)) ++ (if (d : Int) ∈ D a ok val i k then [(i : Int)] else [])
def ml (base : List (ByteArray × ByteArray)) (i k : Nat) : List (ByteArray × ByteArray) := base ++ ((List.range i).flatMap fun i' => M a ok i' (a.m i')) ++ M a ok i k
def sl (base : List ByteArray) (i : Nat) : List ByteArray := base ++ ((List.range i).filter fun i' => U a i').map a.id
end

variable {a : Nds} {ok : ByteArray → Bool} {val : ByteArray → Int}

theorem dl_next (i i' : Nat) : dl a ok val (i + 1) 0 i' = dl a ok val i (a.m i) i' := by
  unfold dl
  by_cases h : i' < i
  · rw [if_pos (by omega), if_pos h]
  · by_cases e : i' = i
    · subst e; rw [if_pos (by omega), if_neg (by omega), if_pos rfl]
    · rw [if_neg (by omega), if_neg h, if_neg e]
      by_cases e2 : i' = i + 1
      · rw [if_pos e2]; rfl
      · rw [if_neg e2]
theorem el_next (i d : Nat) : el a ok val (i + 1) 0 d = el a ok val i (a.m i) d := by
  unfold el
  rw [List.range_succ, List.filter_append, List.map_append]
  have : (d : Int) ∉ D a ok val (i + 1) 0 := by simp [D, du]
  rw [if_neg this, List.append_nil]
  congr 1
  by_cases h : (d : Int) ∈ D a ok val i (a.m i) <;> simp [h]
theorem ml_next (base : List (ByteArray × ByteArray)) (i : Nat) : ml a ok base (i + 1) 0 = ml a ok base i (a.m i) := by
  unfold ml
  rw [List.range_succ, List.flatMap_append]
  simp [M, me, mu]
theorem sl_next (base : List ByteArray) (i : Nat) : sl a base (i + 1) = sl a base i ++ (if U a i = true then [a.id i] else []) := by
  unfold sl
  rw [List.range_succ, List.filter_append, List.map_append, ← List.append_assoc]
  congr 1
  cases h : U a i <;> simp [h]
theorem dl_at (i k : Nat) : dl a ok val i k i = D a ok val i k := by unfold dl; rw [if_neg (by omega), if_pos rfl]
theorem dl_ne {i k k' i' : Nat} (h : i' ≠ i) : dl a ok val i k i' = dl a ok val i k' i' := by
  unfold dl
  by_cases h' : i' < i
  · rw [if_pos h', if_pos h']
  · rw [if_neg h', if_neg h', if_neg h, if_neg h]
theorem el_new {i k d x : Nat} (hD : D a ok val i (k + 1) = D a ok val i k ++ [(x : Int)]) (hx : (x : Int) ∉ D a ok val i k) : el a ok val i (k + 1) d = if d = x then el a ok val i k d ++ [(i : Int)] else el a ok val i k d := by
  unfold el
  rw [hD]
  by_cases e : d = x
  · subst e; rw [if_pos rfl, if_neg hx, if_pos (by simp)]; simp
  · rw [if_neg e]
    have : ((d : Int) ∈ D a ok val i k ++ [(x : Int)]) ↔ (d : Int) ∈ D a ok val i k := by simp; omega
    simp only [this]
theorem ml_new {base : List (ByteArray × ByteArray)} {i k : Nat} {x : ByteArray × ByteArray} (h : M a ok i (k + 1) = M a ok i k ++ [x]) : ml a ok base i (k + 1) = ml a ok base i k ++ [x] := by
  unfold ml; rw [h, ← List.append_assoc]
theorem D_len (i k : Nat) : (D a ok val i k).length ≤ k := du_len k
theorem M_len (i k : Nat) : (M a ok i k).length ≤ k := me_len _ _ _ _
theorem dl_len (hm : ∀ i, i < a.n → a.m i ≤ 4096) {i k i' : Nat} (hi : i ≤ a.n) (hk : k ≤ 4096) : (dl a ok val i k i').length ≤ 4096 := by
  unfold dl
  split
  · have := D_len (ok := ok) (val := val) i' (a.m i') (a := a); have := hm i' (by omega); omega
  · split
    · have := D_len (ok := ok) (val := val) i k (a := a); omega
    · simp
theorem el_len {i k d : Nat} : (el a ok val i k d).length ≤ i + 1 := by
  unfold el
  have h1 := List.length_filter_le (fun i' => decide ((d : Int) ∈ D a ok val i' (a.m i'))) (List.range i)
  simp only [List.length_append, List.length_map, List.length_range] at *
  split <;> simp <;> omega
theorem flat_len (hm : ∀ i, i < a.n → a.m i ≤ 4096) : ∀ i, i ≤ a.n → ((List.range i).flatMap fun i' => M a ok i' (a.m i')).length ≤ i * 4096
  | 0, _ => by simp
  | i + 1, h => by
    rw [List.range_succ, List.flatMap_append, List.length_append]
    have h1 := flat_len hm i (by omega)
    have h2 := M_len (ok := ok) (a := a) i (a.m i)
    have h3 := hm i (by omega)
    simp only [List.flatMap_cons, List.flatMap_nil, List.append_nil]
    omega
theorem ml_len (hm : ∀ i, i < a.n → a.m i ≤ 4096) {base : List (ByteArray × ByteArray)} {i k : Nat} (hi : i ≤ a.n) (hk : k ≤ 4096) : (ml a ok base i k).length ≤ base.length + i * 4096 + 4096 := by
  unfold ml
  have h1 := flat_len (ok := ok) hm i hi
  have h2 := M_len (ok := ok) (a := a) i k
  simp only [List.length_append]; omega
theorem sl_len {base : List ByteArray} {i : Nat} : (sl a base i).length ≤ base.length + i := by
  unfold sl
  have h1 := List.length_filter_le (fun i' => U a i') (List.range i)
  simp only [List.length_append, List.length_map, List.length_range] at *; omega
end Go.Proofs.Qxb6603999a.Res

/- Plain mathematics on digits: no Go in sight. -/
namespace Go.Proofs.Qxb6605314a.Dig
def isD (c : Int) : Bool := decide (48 ≤ c ∧ c ≤ 57)
def isDB (c : UInt8) : Bool := isD (c.toNat : Int)
def cnt (l : List UInt8) : Int := ((l.filter isDB).length : Int)
def allD (l : List UInt8) : Bool := l.all isDB
theorem isD_true {c : Int} (h1 : 48 ≤ c) (h2 : c ≤ 57) : isD c = true := decide_eq_true ⟨h1, h2⟩
theorem isD_lo {c : Int} (h : c < 48) : isD c = false := decide_eq_false (by omega)
theorem isD_hi {c : Int} (h : 57 < c) : isD c = false := decide_eq_false (by omega)
theorem cnt_bd (l : List UInt8) : 0 ≤ cnt l ∧ cnt l ≤ l.length := by
  unfold cnt
  have := List.length_filter_le isDB l
  omega
theorem take_snoc (s : ByteArray) (k : Nat) (h : k < s.size) : s.data.toList.take (k + 1) = s.data.toList.take k ++ [s[k]] := by
  rw [List.take_succ_eq_append_getElem (by simpa using h)]; rfl
theorem cnt_snoc (l : List UInt8) (c : UInt8) : cnt (l ++ [c]) = cnt l + if isDB c = true then 1 else 0 := by
  unfold cnt
  rw [List.filter_append]
  by_cases h : isDB c = true
  · simp [h]
  · simp [h]
theorem allD_snoc (l : List UInt8) (c : UInt8) : allD (l ++ [c]) = (allD l && isDB c) := by
  unfold allD; simp
theorem allD_false {s : ByteArray} {k : Nat} (h : k < s.size) (hc : isDB s[k] = false) : allD s.data.toList = false := by
  unfold allD
  rw [List.all_eq_false]
  refine ⟨s[k], ?_, by simp [hc]⟩
  have : s[k] = s.data.toList[k]'(by simpa using h) := rfl
  rw [this]
  exact List.getElem_mem _
theorem cnt_all (l : List UInt8) : (cnt l == (l.length : Int)) = allD l := by
  unfold cnt allD
  rw [Bool.eq_iff_iff]
  constructor
  · intro h
    have h' : (l.filter isDB).length = l.length := by
      have := eq_of_beq h; omega
    rw [List.length_filter_eq_length_iff] at h'
    exact List.all_eq_true.2 h'
  · intro h
    have h' := List.length_filter_eq_length_iff.2 (List.all_eq_true.1 h)
    rw [h']; simp
theorem allD_append (a b : List UInt8) : allD (a ++ b) = (allD a && allD b) := by
  unfold allD; simp
end Go.Proofs.Qxb6605314a.Dig

import Derived.Test.Qxb6600857aRows
import Derived.WalkKit
import Derived.OwnWalk
import Derived.WalkSpells
import Derived.WalkLawsBesides
import Derived.Below
import Derived.Outline
namespace Go.Proofs.Qxb6600857a.Common
open Go.RowKit

theorem ret_bool {a b : Bool} (h : a = b) : Ending.returned (.bool a) = .returned (.bool b) := by rw [h]
theorem ret_int {k : IntKind} {a b : Int} (h : a = b) : Ending.returned (.int k a) = .returned (.int k b) := by rw [h]

/-- A slice of 'n' one-cell elements at 'x' reads, in w, as 'cell 0, .., cell (n - 1)'. -/
def Rd (w : World) (x : Option Addr) (n : Nat) (cell : Nat → Value) : Prop :=
  0 < n → ∃ b off, x = some ⟨b, off, none⟩ ∧ b < w.heap.size ∧ ∀ j, j < n → w.cell? ⟨b, off + j, none⟩ = some (cell j)

theorem Rd.below {w w' : World} {x : Option Addr} {n : Nat} {cell : Nat → Value} (h : Rd w x n cell) (hb : Below w.heap.size w w') : Rd w' x n cell := by
  intro hn
  obtain ⟨b, off, hx, hlt, hc⟩ := h hn
  refine ⟨b, off, hx, by have := hb.size; omega, fun j hj => ?_⟩
  rw [hb.cell (p := ⟨b, off + j, none⟩) hlt]
  exact hc j hj

theorem Rd.nil {w : World} {n : Nat} {cell : Nat → Value} (h : Rd w none n cell) : n = 0 := by
  rcases Nat.eq_zero_or_pos n with h0 | h0
  · exact h0
  · obtain ⟨b, off, hx, _⟩ := h h0; simp at hx

theorem rd_of_owns {w : World} {B e : Nat} {n cap : Nat} {xs : List Value} {cell : Nat → Value} (h : w.ownsRow B e 1 (.slice (some ⟨B, 0, none⟩) n cap) n xs) (hx : ∀ j, j < n → xs[j]? = some (cell j)) : Rd w (some ⟨B, 0, none⟩) n cell := by
  intro _
  refine ⟨B, 0, rfl, (h.lt B rfl).2, fun j hj => ?_⟩
  rw [Nat.zero_add, h.cellAt j (by omega)]
  exact hx j hj

theorem owns_store {w w0 : World} {B e : Nat} {n cap k : Nat} {xs : List Value} {cell : Nat → Value} (h : w.ownsRow B e 1 (.slice (some ⟨B, 0, none⟩) n cap) n xs) (hx : ∀ j, j < k → xs[j]? = some (cell j)) (hk : k < n) (hb : Below B w0 w) :
    (w.setCell ⟨B, k, none⟩ (cell k)).ownsRow B e 1 (.slice (some ⟨B, 0, none⟩) n cap) n (xs.set k (cell k)) ∧ (∀ j, j < k + 1 → (xs.set k (cell k))[j]? = some (cell j)) ∧ Below B w0 (w.setCell ⟨B, k, none⟩ (cell k)) := by
  refine ⟨(h.stored k (cell k)).1, fun j hj => ?_, hb.setCell (Nat.le_refl _) _⟩
  have hl := h.1
  by_cases hjk : j = k
  · subst hjk; rw [List.getElem?_set_self (by omega)]
  · rw [List.getElem?_set_ne (by omega)]; exact hx j (by omega)

end Go.Proofs.Qxb6600857a.Common

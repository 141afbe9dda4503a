import Derived.Test.Qxb6603999aRows
import Derived.WalkKit
import Derived.OwnWalk
import Derived.WalkSpells
import Derived.WalkLawsBesides
import Derived.WalkSmall
import Derived.Below
import Derived.Outline
import Derived.Maps.AppendAt
import Derived.Maps.OwnSet
import Derived.Deep.RegionWith
import Derived.Deep.RegionLaw
import Derived.Deep.QuietTactic
import Derived.BigQuiet
namespace Go.Proofs.Qxb6603999a.Common
open Go.RowKit

theorem hid {p : Prop} (h : p) : Hid p := h
theorem ret_bool {a b : Bool} (h : a = b) : Ending.returned (.bool a) = .returned (.bool b) := by rw [h]
theorem ret_int {k : IntKind} {a b : Int} (h : a = b) : Ending.returned (.int k a) = .returned (.int k b) := by rw [h]

/-- Some bool comes back, of which p holds; nothing that was there has turned. -/
def AnyB (w : World) (p : Bool → Prop) (e : Ending) (w' : World) : Prop := ∃ b, e = .returned (.bool b) ∧ Below w.heap.size w w' ∧ p b
theorem AnyB.of {w w' : World} {p : Bool → Prop} (b : Bool) (hb : Below w.heap.size w w') (h : p b) : AnyB w p (.returned (.bool b)) w' := ⟨b, rfl, hb, h⟩

/-- Blocks from B on that were there read as they did. -/
def Above (B : Nat) (w w' : World) : Prop := w.heap.size ≤ w'.heap.size ∧ ∀ b, B ≤ b → b < w.heap.size → w'.heap[b]? = w.heap[b]?
theorem Above.of {B : Nat} {w w' : World} (h : Below w.heap.size w w') : Above B w w' := ⟨h.size, fun b _ hb => h.block b hb⟩
theorem Above.trans {B : Nat} {w w' w'' : World} (h : Above B w w') (k : Above B w' w'') : Above B w w'' :=
  ⟨Nat.le_trans h.1 k.1, fun b hB hb => (k.2 b hB (Nat.lt_of_lt_of_le hb h.1)).trans (h.2 b hB hb)⟩
theorem Above.mono {B B' : Nat} {w w' : World} (h : Above B w w') (hB : B ≤ B') : Above B' w w' := ⟨h.1, fun b hb => h.2 b (by omega)⟩
theorem Above.setCell {B : Nat} {w w' : World} (h : Above B w w') (a : Addr) (ha : a.block < B) (u : Value) : Above B w (w'.setCell a u) :=
  ⟨by simpa using h.1, fun b hB hb => (Below.heap_setCell w' a u b (by omega)).trans (h.2 b hB hb)⟩

/-- A slice of n elements of s cells reads, in w, through a block from B on: cell j of it is 'cell j' (j < n * s). -/
def Rd (w : World) (B : Nat) (s : Nat) (x : Option Addr) (n : Nat) (cell : Nat → Value) : Prop :=
  0 < n → ∃ b off, x = some ⟨b, off, none⟩ ∧ B ≤ b ∧ b < w.heap.size ∧ ∀ j, j < n * s → w.cell? ⟨b, off + j, none⟩ = some (cell j)

theorem Rd.carry {w w' : World} {B B' s : Nat} {x : Option Addr} {n : Nat} {cell : Nat → Value} (h : Rd w B s x n cell) (ha : Above B w w') (hB : B' ≤ B) : Rd w' B' s x n cell := by
  intro hn
  obtain ⟨b, off, hx, hb, hlt, hc⟩ := h hn
  refine ⟨b, off, hx, by omega, Nat.lt_of_lt_of_le hlt ha.1, fun j hj => ?_⟩
  rw [World.cell?_of_block (a := ⟨b, off + j, none⟩) (ha.2 b hb hlt)]
  exact hc j hj
theorem Rd.below {w w' : World} {B s : Nat} {x : Option Addr} {n : Nat} {cell : Nat → Value} (h : Rd w B s x n cell) (hb : Below w.heap.size w w') : Rd w' B s x n cell := h.carry (.of hb) (Nat.le_refl _)
theorem Rd.nil {w : World} {B s : Nat} {n : Nat} {cell : Nat → Value} (h : Rd w B s none n cell) : n = 0 := by
  rcases Nat.eq_zero_or_pos n with h0 | h0
  · exact h0
  · obtain ⟨b, off, hx, _⟩ := h h0; simp at hx

/-- An owned row reads. -/
theorem rd_of_owns {w : World} {B e s n c : Nat} {y : Option Addr} {xs : List Value} {cell : Nat → Value} (h : w.ownsRow B e s (.slice y n c) n xs) (hx : ∀ j, j < n * s → xs[j]? = some (cell j)) : Rd w B s y n cell := by
  intro hn
  rcases h.2 with ⟨_, h2⟩ | ⟨g, cap, cur, h1, h2, h3, h4⟩
  · omega
  · simp only [Value.slice.injEq] at h1
    obtain ⟨hy, _, rfl⟩ := h1
    subst hy
    refine ⟨g, 0, rfl, h2, (h.lt g rfl).2, fun j hj => ?_⟩
    rw [Nat.zero_add, h.cellAt j hj]
    exact hx j hj

theorem owns_form {w : World} {B e s n : Nat} {v : Value} {xs : List Value} (h : w.ownsRow B e s v n xs) : ∃ y c, v = .slice y n c := by
  rcases h.2 with ⟨h1, h2⟩ | ⟨g, cap, cur, h1, _⟩
  · exact ⟨none, 0, by rw [h2]; exact h1⟩
  · exact ⟨_, _, h1⟩

theorem owns_same {w w' : World} {B e s n : Nat} {v : Value} {xs : List Value} (h : w.ownsRow B e s v n xs) (hs : ∀ g, v.ownBlock = some g → w'.heap[g]? = w.heap[g]?) : w'.ownsRow B e s v n xs := by
  rcases h with ⟨h0, h1 | ⟨g', cap, cur, hv, r1, r2, r3⟩⟩
  · exact ⟨h0, .inl h1⟩
  · exact ⟨h0, .inr ⟨g', cap, cur, hv, r1, by rw [hs g' (by rw [hv]; rfl)]; exact r2, r3⟩⟩
theorem owns_below {w w' : World} {B e s n : Nat} {v : Value} {xs : List Value} (h : w.ownsRow B e s v n xs) (hb : Below w.heap.size w w') : w'.ownsRow B e s v n xs :=
  owns_same h fun g hg => hb.block g (h.lt g hg).2
theorem owns_base {w : World} {B B' e s n : Nat} {v : Value} {xs : List Value} (h : w.ownsRow B e s v n xs) (hB : B' ≤ B) : w.ownsRow B' e s v n xs := by
  rcases h with ⟨h0, h1 | ⟨g', cap, cur, hv, r1, r2⟩⟩
  · exact ⟨h0, .inl h1⟩
  · exact ⟨h0, .inr ⟨g', cap, cur, hv, by omega, r2⟩⟩

/-- n values, by index -/
def vals (n : Nat) (f : Nat → Value) : List Value := (List.range n).map f
theorem vals_len (n : Nat) (f : Nat → Value) : (vals n f).length = n := by simp [vals]
theorem vals_at {n : Nat} {f : Nat → Value} {j : Nat} (h : j < n) : (vals n f)[j]? = some (f j) := by
  unfold vals; rw [List.getElem?_map, List.getElem?_range h]; rfl
theorem vals_of {n : Nat} {f : Nat → Value} {xs : List Value} (hl : xs.length = n) (h : ∀ j, j < n → xs[j]? = some (f j)) : xs = vals n f := by
  apply List.ext_getElem?
  intro j
  by_cases hj : j < n
  · rw [h j hj, vals_at hj]
  · rw [List.getElem?_eq_none (by omega), List.getElem?_eq_none (by rw [vals_len]; omega)]

/-- cells of elements of two cells, by index -/
def pair (f g : Nat → Value) (q : Nat) : Value := if q % 2 = 0 then f (q / 2) else g (q / 2)
theorem pair_0 (f g : Nat → Value) (k : Nat) : pair f g (k * 2) = f k := by
  unfold pair; rw [if_pos (by omega), Nat.mul_div_cancel _ (by omega)]
theorem pair_1 (f g : Nat → Value) (k : Nat) : pair f g (k * 2 + 1) = g k := by
  unfold pair; rw [if_neg (by omega), show (k * 2 + 1) / 2 = k by omega]

/-- Strings. -/
abbrev RdS (w : World) (B : Nat) (x : Option Addr) (n : Nat) (s : Nat → ByteArray) : Prop := Rd w B 1 x n fun j => .string (s j)
/-- Ints. -/
abbrev RdI (w : World) (B : Nat) (x : Option Addr) (n : Nat) (z : Nat → Int) : Prop := Rd w B 1 x n fun j => .int .i64 (z j)
/-- Edges. -/
abbrev RdE (w : World) (B : Nat) (x : Option Addr) (n : Nat) (f t : Nat → ByteArray) : Prop := Rd w B 2 x n (pair (fun j => .string (f j)) (fun j => .string (t j)))
/-- Slices of strings. -/
def RdC (w : World) (B : Nat) (x : Option Addr) (n : Nat) (y : Nat → Option Addr) (m c : Nat → Nat) (s : Nat → Nat → ByteArray) : Prop :=
  Rd w B 1 x n (fun j => .slice (y j) (m j) (c j)) ∧ ∀ j, j < n → RdS w B (y j) (m j) (s j)
/-- Nodes. -/
def RdN (w : World) (B : Nat) (x : Option Addr) (n : Nat) (id : Nat → ByteArray) (y : Nat → Option Addr) (m c : Nat → Nat) (s : Nat → Nat → ByteArray) : Prop :=
  Rd w B 2 x n (pair (fun j => .string (id j)) (fun j => .slice (y j) (m j) (c j))) ∧ ∀ j, j < n → RdS w B (y j) (m j) (s j)

theorem RdN.carry {w w' : World} {B B' : Nat} {x : Option Addr} {n : Nat} {id : Nat → ByteArray} {y : Nat → Option Addr} {m c : Nat → Nat} {s : Nat → Nat → ByteArray} (h : RdN w B x n id y m c s) (ha : Above B w w') (hB : B' ≤ B) : RdN w' B' x n id y m c s :=
  ⟨h.1.carry ha hB, fun j hj => (h.2 j hj).carry ha hB⟩
theorem RdN.below {w w' : World} {B : Nat} {x : Option Addr} {n : Nat} {id : Nat → ByteArray} {y : Nat → Option Addr} {m c : Nat → Nat} {s : Nat → Nat → ByteArray} (h : RdN w B x n id y m c s) (hb : Below w.heap.size w w') : RdN w' B x n id y m c s := h.carry (.of hb) (Nat.le_refl _)
theorem RdC.carry {w w' : World} {B B' : Nat} {x : Option Addr} {n : Nat} {y : Nat → Option Addr} {m c : Nat → Nat} {s : Nat → Nat → ByteArray} (h : RdC w B x n y m c s) (ha : Above B w w') (hB : B' ≤ B) : RdC w' B' x n y m c s :=
  ⟨h.1.carry ha hB, fun j hj => (h.2 j hj).carry ha hB⟩
theorem RdC.below {w w' : World} {B : Nat} {x : Option Addr} {n : Nat} {y : Nat → Option Addr} {m c : Nat → Nat} {s : Nat → Nat → ByteArray} (h : RdC w B x n y m c s) (hb : Below w.heap.size w w') : RdC w' B x n y m c s := h.carry (.of hb) (Nat.le_refl _)

/-- One cell of a slice of strings (ints), in a later world. -/
theorem Rd.at1 {w : World} {B : Nat} {x : Option Addr} {n : Nat} {cell : Nat → Value} (h : Rd w B 1 x n cell) {k : Nat} (hk : k < n) : ∃ b off, x = some ⟨b, off, none⟩ ∧ B ≤ b ∧ b < w.heap.size ∧ w.cell? ⟨b, off + k, none⟩ = some (cell k) := by
  obtain ⟨b, off, hx, hB, hb, hc⟩ := h (by omega)
  exact ⟨b, off, hx, hB, hb, hc k (by omega)⟩
theorem Rd.at2 {w : World} {B : Nat} {x : Option Addr} {n : Nat} {f g : Nat → Value} (h : Rd w B 2 x n (pair f g)) {k : Nat} (hk : k < n) : ∃ b off, x = some ⟨b, off, none⟩ ∧ B ≤ b ∧ b < w.heap.size ∧ w.cell? ⟨b, off + k * 2, none⟩ = some (f k) ∧ w.cell? ⟨b, off + k * 2 + 1, none⟩ = some (g k) := by
  obtain ⟨b, off, hx, hB, hb, hc⟩ := h (by omega)
  refine ⟨b, off, hx, hB, hb, ?_, ?_⟩
  · rw [hc (k * 2) (by omega), pair_0]
  · rw [Nat.add_assoc, hc (k * 2 + 1) (by omega), pair_1]

theorem info9 : (Try.prog.info? 9).map (fun i => (i.zero, i.size, i.bytes)) = some (some (.string ByteArray.empty), 1, 16) := by kernel_rfl
theorem info3 : (Try.prog.info? 3).map (fun i => (i.zero, i.size, i.bytes)) = some (some (.int .i64 0), 1, 8) := by kernel_rfl
theorem info39 : (Try.prog.info? 39).map (fun i => (i.zero, i.size, i.bytes)) = some (some (.slice none 0 0), 1, 24) := by kernel_rfl
theorem info24 : (Try.prog.info? 24).map (fun i => (i.zero, i.size, i.bytes)) = some (some (.slice none 0 0), 1, 24) := by kernel_rfl
theorem info42 : (Try.prog.info? 42).map (fun i => (i.zero, i.size, i.bytes)) = some (some (.agg #[.string ByteArray.empty, .slice none 0 0]), 2, 40) := by kernel_rfl
theorem info58 : (Try.prog.info? 58).map (fun i => (i.zero, i.size, i.bytes)) = some (some (.agg #[.string ByteArray.empty, .slice none 0 0]), 2, 40) := by kernel_rfl
theorem info46 : (Try.prog.info? 46).map (fun i => (i.zero, i.size, i.bytes)) = some (some (.agg #[.string ByteArray.empty, .string ByteArray.empty]), 2, 32) := by kernel_rfl
theorem info57 : (Try.prog.info? 57).map (fun i => (i.zero, i.size, i.bytes)) = some (some (.agg #[.string ByteArray.empty, .string ByteArray.empty]), 2, 32) := by kernel_rfl

theorem eqnil (T e : TypeId) (h : Try.prog.underlying T = some (.slice e)) : ∀ (w : World) (a : Option Addr) (n c n' c' : Nat), (binOp .eql T (.slice a n c) (.slice none n' c')).run Try.prog w = .ok (.bool a.isNone) w := fun w a n c n' c' => Lib.run_eql_slice_nil w _ _ a n c n' c' h
theorem neqnil (T e : TypeId) (h : Try.prog.underlying T = some (.slice e)) : ∀ (w : World) (a : Option Addr) (n c n' c' : Nat), (binOp .neq T (.slice a n c) (.slice none n' c')).run Try.prog w = .ok (.bool (!a.isNone)) w := fun w a n c n' c' => run_neq_slice_nil_any w _ _ a n c n' c' h
end Go.Proofs.Qxb6603999a.Common

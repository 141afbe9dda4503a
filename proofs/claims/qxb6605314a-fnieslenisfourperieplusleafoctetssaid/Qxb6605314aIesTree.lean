import Derived.Test.Qxb6605314aRows
import Derived.WalkKit
import Derived.OwnWalk
import Derived.WalkSpells
import Derived.WalkLawsBesides
import Derived.Below
import Derived.Outline
namespace Go.Proofs.Qxb6605314a.IesTree
open Go.RowKit

/-- One IE as it lies in four cells, with what its tree counts: N nodes, M octets of leaves, V octets of values. -/
structure Nod where
  t : Int
  i : Int
  vx : Option Addr
  vn : Nat
  vc : Nat
  kx : Option Addr
  kn : Nat
  kc : Nat
  N : Nat
  M : Nat
  V : Nat

def Nod.cells (a : Nod) : List Value := [.int .u8 a.t, .int .u8 a.i, .slice a.vx a.vn a.vc, .slice a.kx a.kn a.kc]

def sumN : List Nod → Nat
  | [] => 0
  | a :: l => a.N + sumN l
def sumM : List Nod → Nat
  | [] => 0
  | a :: l => a.M + sumM l
def sumV : List Nod → Nat
  | [] => 0
  | a :: l => a.V + sumV l

theorem sumN_app (l r : List Nod) : sumN (l ++ r) = sumN l + sumN r := by
  induction l with
  | nil => simp [sumN]
  | cons a l ih => simp [sumN, ih]; omega
theorem sumM_app (l r : List Nod) : sumM (l ++ r) = sumM l + sumM r := by
  induction l with
  | nil => simp [sumM]
  | cons a l ih => simp [sumM, ih]; omega
theorem sumV_app (l r : List Nod) : sumV (l ++ r) = sumV l + sumV r := by
  induction l with
  | nil => simp [sumV]
  | cons a l ih => simp [sumV, ih]; omega
theorem take_snoc {l : List Nod} {k : Nat} {a : Nod} (h : l[k]? = some a) : l.take (k + 1) = l.take k ++ [a] := by
  rw [List.take_add_one, h]; rfl
theorem sumN_take {l : List Nod} {k : Nat} {a : Nod} (h : l[k]? = some a) : sumN (l.take (k + 1)) = sumN (l.take k) + a.N := by
  rw [take_snoc h, sumN_app]; simp [sumN]
theorem sumM_take {l : List Nod} {k : Nat} {a : Nod} (h : l[k]? = some a) : sumM (l.take (k + 1)) = sumM (l.take k) + a.M := by
  rw [take_snoc h, sumM_app]; simp [sumM]
theorem sumV_take {l : List Nod} {k : Nat} {a : Nod} (h : l[k]? = some a) : sumV (l.take (k + 1)) = sumV (l.take k) + a.V := by
  rw [take_snoc h, sumV_app]; simp [sumV]
theorem sumN_split (l : List Nod) (k : Nat) : sumN l = sumN (l.take k) + sumN (l.drop k) := by
  rw [← sumN_app, List.take_append_drop]
theorem sumM_split (l : List Nod) (k : Nat) : sumM l = sumM (l.take k) + sumM (l.drop k) := by
  rw [← sumM_app, List.take_append_drop]
theorem sumV_split (l : List Nod) (k : Nat) : sumV l = sumV (l.take k) + sumV (l.drop k) := by
  rw [← sumV_app, List.take_append_drop]

/-- The node's own numbers are the sums over its children; 'F' reads a list of nodes, 'P' a value's octets. -/
def NodOk (P : Option Addr → Nat → Prop) (F : Option Addr → List Nod → Prop) (a : Nod) : Prop :=
  P a.vx a.vn ∧
  ((a.kx = none ∧ a.kn = 0 ∧ a.N = 1 ∧ a.M = a.vn ∧ a.V = a.vn) ∨
   ∃ k l, a.kx = some k ∧ F (some k) l ∧ l.length = a.kn ∧ a.N = sumN l + 1 ∧ a.M = sumM l ∧ a.V = a.vn + sumV l)

/-- The four cells of a node at (b, o). -/
def At (w : World) (b o : Nat) (a : Nod) : Prop :=
  w.cell? ⟨b, o, none⟩ = some (.int .u8 a.t) ∧ w.cell? ⟨b, o + 1, none⟩ = some (.int .u8 a.i) ∧
  w.cell? ⟨b, o + 2, none⟩ = some (.slice a.vx a.vn a.vc) ∧ w.cell? ⟨b, o + 3, none⟩ = some (.slice a.kx a.kn a.kc)

/-- A slice at x reads, in w, as the nodes l: through blocks that are 'ok', at most d levels deep. -/
def Fr (P : World → Option Addr → Nat → Prop) (ok : Nat → Prop) : Nat → World → Option Addr → List Nod → Prop
  | 0, _, _, l => l = []
  | d + 1, w, x, l => l ≠ [] → ∃ b off, x = some ⟨b, off, none⟩ ∧ b < w.heap.size ∧ ok b ∧ ∀ j a, l[j]? = some a → At w b (off + j * 4) a ∧ NodOk (P w) (Fr P ok d w) a

theorem NodOk.imp {P P' : Option Addr → Nat → Prop} {F F' : Option Addr → List Nod → Prop} {a : Nod} (h : NodOk P F a) (hP : ∀ x n, P x n → P' x n) (hF : ∀ x l, F x l → F' x l) : NodOk P' F' a := by
  refine ⟨hP _ _ h.1, ?_⟩
  rcases h.2 with h | ⟨k, l, h1, h2, h3⟩
  · exact .inl h
  · exact .inr ⟨k, l, h1, hF _ _ h2, h3⟩

theorem At.same {w w' : World} {b o : Nat} {a : Nod} (h : At w b o a) (hb : w'.heap[b]? = w.heap[b]?) : At w' b o a := by
  unfold At at *
  rw [World.cell?_of_block (a := ⟨b, o, none⟩) hb, World.cell?_of_block (a := ⟨b, o + 1, none⟩) hb, World.cell?_of_block (a := ⟨b, o + 2, none⟩) hb, World.cell?_of_block (a := ⟨b, o + 3, none⟩) hb]
  exact h

theorem Fr.carry {P P' : World → Option Addr → Nat → Prop} {ok ok' : Nat → Prop} {w w' : World} (hs : w.heap.size ≤ w'.heap.size) (hk : ∀ b, b < w.heap.size → ok b → w'.heap[b]? = w.heap[b]? ∧ ok' b) (hP : ∀ x n, P w x n → P' w' x n) :
    ∀ d x l, Fr P ok d w x l → Fr P' ok' d w' x l
  | 0, _, _, h => h
  | d + 1, x, l, h => fun hl => by
    obtain ⟨b, off, hx, hb, ho, hj⟩ := h hl
    refine ⟨b, off, hx, by omega, (hk b hb ho).2, fun j a ha => ?_⟩
    obtain ⟨h1, h2⟩ := hj j a ha
    exact ⟨h1.same (hk b hb ho).1, h2.imp hP (fun x l => Fr.carry hs hk hP d x l)⟩

theorem Fr.nil {P : World → Option Addr → Nat → Prop} {ok : Nat → Prop} {d : Nat} {w : World} {l : List Nod} (h : Fr P ok d w none l) : l = [] := by
  cases d with
  | zero => exact h
  | succ d =>
    rcases l with _ | ⟨a, l⟩
    · rfl
    · obtain ⟨b, off, hx, _⟩ := h (by simp)
      simp at hx

theorem Fr.mk_nil {P : World → Option Addr → Nat → Prop} {ok : Nat → Prop} {d : Nat} {w : World} {x : Option Addr} : Fr P ok d w x [] := by
  cases d with
  | zero => rfl
  | succ d => exact fun h => absurd rfl h

/-- The octets of a value, as they came in. -/
def Oct (w : World) (x : Option Addr) (n : Nat) : Prop :=
  ∃ f : Nat → Int, 0 < n → ∃ b off, x = some ⟨b, off, none⟩ ∧ b < w.heap.size ∧ ∀ j, j < n → w.cell? ⟨b, off + j, none⟩ = some (.int .u8 (f j))

theorem Oct.nil {w : World} {n : Nat} (h : Oct w none n) : n = 0 := by
  obtain ⟨f, h⟩ := h
  rcases Nat.eq_zero_or_pos n with h0 | h0
  · exact h0
  · obtain ⟨b, off, hx, _⟩ := h h0; simp at hx

theorem Oct.below {w w' : World} {x : Option Addr} {n : Nat} (h : Oct w x n) (hb : Below w.heap.size w w') : Oct w' x n := by
  obtain ⟨f, h⟩ := h
  refine ⟨f, fun hn => ?_⟩
  obtain ⟨b, off, hx, hlt, hc⟩ := h hn
  refine ⟨b, off, hx, by have := hb.size; omega, fun j hj => ?_⟩
  rw [hb.cell (p := ⟨b, off + j, none⟩) hlt]
  exact hc j hj

/-- As they came in. -/
abbrev Fi := Fr Oct (fun _ => True)
/-- As this call made them: from block B on; of the values only their lengths matter. -/
abbrev Fo (B : Nat) := Fr (fun _ _ _ => True) (fun b => B ≤ b)

theorem Fi.below {w w' : World} {d : Nat} {x : Option Addr} {l : List Nod} (h : Fi d w x l) (hb : Below w.heap.size w w') : Fi d w' x l :=
  Fr.carry hb.size (fun b hlt _ => ⟨hb.block b hlt, trivial⟩) (fun _ _ h => h.below hb) d x l h
theorem Fo.below {B B' : Nat} {w w' : World} {d : Nat} {x : Option Addr} {l : List Nod} (h : Fo B d w x l) (hb : Below w.heap.size w w') (hB : B' ≤ B) : Fo B' d w' x l :=
  Fr.carry hb.size (fun b hlt hk => ⟨hb.block b hlt, by omega⟩) (fun _ _ h => h) d x l h

theorem len_le (l : List Nod) (h : ∀ (j : Nat) (a : Nod), l[j]? = some a → 1 ≤ a.N) : l.length ≤ sumN l := by
  induction l with
  | nil => simp [sumN]
  | cons a l ih =>
    have h0 := h 0 a (by simp)
    have h1 := ih fun j b hb => h (j + 1) b (by simpa using hb)
    simp only [List.length_cons, sumN]; omega
theorem NodOk.pos {P : Option Addr → Nat → Prop} {F : Option Addr → List Nod → Prop} {a : Nod} (h : NodOk P F a) : 1 ≤ a.N := by
  rcases h.2 with ⟨_, _, h, _⟩ | ⟨_, _, _, _, _, h, _⟩ <;> omega
theorem Fr.len {P : World → Option Addr → Nat → Prop} {ok : Nat → Prop} {d : Nat} {w : World} {x : Option Addr} {l : List Nod} (h : Fr P ok d w x l) : l.length ≤ sumN l := by
  cases d with
  | zero => have h' : l = [] := h
            subst h'; simp
  | succ d =>
    refine len_le l fun j a ha => ?_
    obtain ⟨b, off, _, _, _, hj⟩ := h (by intro e; subst e; simp at ha)
    exact (hj j a ha).2.pos
theorem sumN_le (l : List Nod) (k : Nat) : sumN (l.take k) ≤ sumN l := by rw [sumN_split l k]; omega
theorem sumM_le (l : List Nod) (k : Nat) : sumM (l.take k) ≤ sumM l := by rw [sumM_split l k]; omega
theorem sumV_le (l : List Nod) (k : Nat) : sumV (l.take k) ≤ sumV l := by rw [sumV_split l k]; omega

theorem ret_bool {a b : Bool} (h : a = b) : Ending.returned (.bool a) = .returned (.bool b) := by rw [h]
theorem ret_int {k : IntKind} {a b : Int} (h : a = b) : Ending.returned (.int k a) = .returned (.int k b) := by rw [h]
end Go.Proofs.Qxb6605314a.IesTree

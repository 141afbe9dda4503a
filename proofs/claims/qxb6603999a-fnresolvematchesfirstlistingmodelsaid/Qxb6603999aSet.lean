import Derived.Test.Qxb6603999aCommon
import Derived.Maps.Own
import Derived.Maps.OwnSet
import Derived.Maps.Views
import Derived.DeepKeys4
namespace Go.Proofs.Qxb6603999a.MSet
open Go.RowKit Go.Proofs.Qxb6603999a.Common
open Go.Maps (Keyed)

theorem laidOut : laidOutB Try.prog = true := by kernel_rfl
theorem row63 : 63 < Try.prog.types.size := of_decide_eq_true (by kernel_rfl)
theorem wide63 : (match Try.prog.underlying 63 with | some (.array _ _) | some (.struct _) => true | _ => false) = true := by kernel_rfl
theorem law : Keyed Try.prog 63 := Keyed.of_law (deep_law_laid laidOut (m := 2) (by omega) row63 (by kernel_rfl) wide63)
theorem keyType63 : Try.prog.keyType 63 = true := by kernel_rfl
theorem cells63 : Try.prog.cellsOf 63 = 2 := by kernel_rfl
theorem cells3 : Try.prog.cellsOf 3 = 1 := by kernel_rfl
theorem cells9 : Try.prog.cellsOf 9 = 1 := by kernel_rfl

/-- what a listing reads as -/
def kl (i : Nat) (s : ByteArray) : Lit := .string (keyBytes [.int .i64 i, .string s.data.toList])

theorem key_of (i : Nat) (s : ByteArray) (hi : (i : Int) ≤ 9223372036854775807) (hs : s.size ≤ maxLen) : keyOf Try.prog 63 (.agg #[.int .i64 i, .string s]) = some (kl i s) := by
  have hw : (Lit.int .i64 (i : Int)).wf = true := by simp [Lit.wf, IntKind.min, IntKind.max, IntKind.signed, IntKind.bits]; omega
  obtain ⟨n, hn⟩ : ∃ n, Try.prog.types.size + 1 = n + 2 := ⟨Try.prog.types.size - 1, by have := row63; omega⟩
  unfold keyOf
  rw [Try.underlying63]
  simp only [keyType63, Value.formed, Try.underlying63, cells63, hn]
  simp [Program.keyLits, Try.underlying63, Try.underlying3, Try.underlying9, cells63, cells3, cells9, Value.cells, hw, hs, kl]

theorem zero4 (w : World) : (zeroValue 4).run Try.prog w = .ok (.bool false) w := by kernel_rfl

theorem plainElem_bool_inv {H : Type} {P : Program} {e : TypeId} (he : P.underlying e = some .bool) {v : Value} {z : DataW H × List MemPlace} (h : plainElem P e v = some z) : ∃ b, v = .bool b ∧ z = (.lit (.bool b), []) := by
  unfold plainElem at h
  rw [he] at h
  cases v <;> simp at h
  exact ⟨_, rfl, h.symm⟩

/-- The map at block g answers f. -/
def Has (w : World) (g n : Nat) (f : Nat → ByteArray → Bool) : Prop :=
  ∃ D : DataW Unit, w.ownsMap Try.prog 63 (plainElem Try.prog 4) g n D ∧ ∀ (i : Nat) (s : ByteArray), (i : Int) ≤ 9223372036854775807 → s.size ≤ maxLen → D.atKey (kl i s) (.lit (.bool false)) = .lit (.bool (f i s))

theorem Has.made (w : World) : Has (w.alloc (.map #[] 0)) w.heap.size 0 (fun _ _ => false) :=
  ⟨_, World.ownsMap_made w _ _ _, fun _ _ _ _ => rfl⟩
theorem Has.kept {w w' : World} {g n : Nat} {f : Nat → ByteArray → Bool} {row : Option Nat} (h : Has w g n f) (hg : w.grownBy w' row) (hne : some g ≠ row) : Has w' g n f := by
  obtain ⟨D, h1, h2⟩ := h; exact ⟨D, h1.kept hg hne, h2⟩
theorem Has.alloc {w : World} {g n : Nat} {f : Nat → ByteArray → Bool} (h : Has w g n f) (o : Obj) : Has (w.alloc o) g n f := by
  obtain ⟨D, h1, h2⟩ := h; exact ⟨D, h1.alloc o, h2⟩
theorem Has.lt {w : World} {g n : Nat} {f : Nat → ByteArray → Bool} (h : Has w g n f) : g < w.heap.size := by
  obtain ⟨D, h1, _⟩ := h; exact h1.lt
/-- a row of cells is no map -/
theorem Has.ne {w : World} {g n : Nat} {f : Nat → ByteArray → Bool} (h : Has w g n f) {B e s m : Nat} {v : Value} {xs : List Value} (ho : w.ownsRow B e s v m xs) : v.ownBlock ≠ some g := by
  obtain ⟨D, ⟨es, cl, hb, _⟩, _⟩ := h
  rcases ho.2 with ⟨h1, _⟩ | ⟨g', cap, cur, h1, _, h3, _⟩
  · rw [h1]; simp [Value.ownBlock]
  · rw [h1]; simp only [Value.ownBlock, ne_eq, Option.some.injEq]
    intro e; subst e; rw [hb] at h3; cases h3

theorem Has.look {w : World} {g n : Nat} {f : Nat → ByteArray → Bool} (h : Has w g n f) {i : Nat} {s : ByteArray} (hi : (i : Int) ≤ 9223372036854775807) (hs : s.size ≤ maxLen) :
    (Instr.lookup 61 (.map (some g)) (.agg #[.int .i64 i, .string s]) false).run Try.prog w = .ok (.bool (f i s)) w := by
  obtain ⟨D, h1, h2⟩ := h
  obtain ⟨v, ps, hrun, hv⟩ := h1.lookup law Try.underlying61 (zero4 w) (plainElem_bool Try.underlying4 false) (key_of i s hi hs)
  obtain ⟨b, rfl, hb⟩ := plainElem_bool_inv Try.underlying4 hv
  simp only [Prod.mk.injEq] at hb
  rw [h2 i s hi hs] at hb
  have : f i s = b := by simpa using hb.1
  rw [this]; exact hrun

theorem kl_inj {i i' : Nat} {s s' : ByteArray} (hi : (i : Int) ≤ 9223372036854775807) (hs : s.size ≤ maxLen) (hi' : (i' : Int) ≤ 9223372036854775807) (hs' : s'.size ≤ maxLen) (h : kl i s = kl i' s') : i = i' ∧ s = s' := by
  have := law.inj (key_of i s hi hs) (by rw [h]; exact key_of i' s' hi' hs')
  simp at this
  exact ⟨by omega, this.2⟩

theorem Has.put {w : World} {g n : Nat} {f : Nat → ByteArray → Bool} (h : Has w g n f) {i : Nat} {s : ByteArray} (hi : (i : Int) ≤ 9223372036854775807) (hs : s.size ≤ maxLen) (hn : n < maxLen) :
    ∃ w', (Instr.mapUpdate 61 (.map (some g)) (.agg #[.int .i64 i, .string s]) (.bool true)).run Try.prog w = .ok () w' ∧ Has w' g (n + 1) (fun i' s' => if i' = i ∧ s' = s then true else f i' s') ∧ w.grownBy w' (some g) := by
  obtain ⟨D, h1, h2⟩ := h
  obtain ⟨w', hrun, h3, h4⟩ := h1.update law Try.underlying61 hn (key_of i s hi hs) (plainElem_bool Try.underlying4 true)
  refine ⟨w', hrun, ⟨_, h3, fun i' s' hi' hs' => ?_⟩, h4⟩
  by_cases e : i' = i ∧ s' = s
  · obtain ⟨rfl, rfl⟩ := e
    show _ = DataW.lit (Lit.bool (if i' = i' ∧ s' = s' then true else f i' s'))
    rw [if_pos ⟨rfl, rfl⟩, Maps.atKey_put_same h1.isMap (law.key (key_of i' s' hi hs))]
  · show _ = DataW.lit (Lit.bool (if i' = i ∧ s' = s then true else f i' s'))
    rw [if_neg e, Maps.atKey_put_other (fun h => e (kl_inj hi' hs' hi hs h))]
    exact h2 i' s' hi' hs'

/-- A store into a map of which the run is known. -/
theorem wpList_mapUpdate_run {P : Program} (w : World) {ops : Array Oper} {rest : List Oper} {o : Oper} {a : Act} {Q : Exit → Act → World → Prop}
    (hg : o.guard = none) (m x v : Operand) (t : TypeId) (hop : o.op = Op.mapUpdate t m x v) (M K V : Value) (hm : a.eval m = M) (hx : a.eval x = K) (hv : a.eval v = V) (w' : World) (hrun : (Instr.mapUpdate t M K V).run P w = .ok () w')
    (hK : wpList P ops Q rest (a.put o.dst undef) w') : wpList P ops Q (o :: rest) a w := by
  refine wpList_plain hg fun K' hK' => ?_
  unfold Oper.wp
  simp [execOp, hop, hm, hx, hv, hrun, Result.andThen]
  exact hK' _ _ hK
end Go.Proofs.Qxb6603999a.MSet

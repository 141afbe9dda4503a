import Derived.Test.Qxb6603999aFit
import Derived.WalkKit
import Derived.ProofKit
import Derived.OpenShut
import Derived.SliceStrings
import Derived.Deep.SlicePairs
import Derived.Lib.SmallJoins
import Derived.Maps.OwnSet
import Derived.Maps.Keyed
namespace Go.Proofs.Qxb6603999a.Open
open Go.ChangeShapes Go.WideShapes Go.ChangeAt Go.RowKit Go.Proofs.Qxb6603999a.Common Go.Proofs.Qxb6603999a.Fit Go.Proofs.Qxb6603999a.Target

theorem cells9 : Try.prog.cellsOf 9 = 1 := by kernel_rfl
theorem cells24 : Try.prog.cellsOf 24 = 1 := by kernel_rfl
theorem cells42 : Try.prog.cellsOf 42 = 2 := by kernel_rfl
theorem cells46 : Try.prog.cellsOf 46 = 2 := by kernel_rfl

variable {H : Type} {enc : TypeId × Value → H} {w : World} {base : Nat} {spare : Nat → Bool} {held : Bool}

theorem lt_of_cell {a : Addr} {v : Value} (h : w.cell? a = some v) : a.block < w.heap.size := by
  unfold World.cell? at h
  cases hb : w.heap[a.block]? with
  | none => rw [hb] at h; simp at h
  | some o => exact (Array.getElem?_eq_some_iff.1 hb).1

theorem rd_nil {s : Nat} {cell : Nat → Value} : Rd w 0 s none 0 cell := fun h => by omega
theorem rd_cells {a : Addr} {len s : Nat} {cell : Nat → Value} (hs : 0 < s) (h : ∀ j, j < len * s → w.cell? (a.add j) = some (cell j)) : Rd w 0 s (some a) len cell := by
  intro h0
  have h1 := h 0 (Nat.mul_pos h0 hs)
  have hsp : a.spot = none := by simpa [Addr.add] using World.cell?_spot h1
  obtain ⟨b, off, spot⟩ := a
  simp only at hsp
  subst hsp
  refine ⟨b, off, rfl, Nat.zero_le _, lt_of_cell h1, fun j hj => ?_⟩
  have := h j hj
  rw [Go.WideShapes.add_plain] at this; exact this

theorem rdS_of {fuel : Nat} {cs : List Value} {x : DataW H × List MemPlace} (h : DataW.trod enc Try.prog w base spare held fuel 24 cs = some x) : ∃ y n c s, cs = [.slice y n c] ∧ RdS w 0 y n s ∧ ∀ j : Nat, (s j).size ≤ maxLen := by
  rcases open_strings Try.underlying24 Try.underlying9 cells9 h with ⟨hcs, _⟩ | ⟨a, l, c, zs, hcs, _, hl, hm, hz, _, hcell, hwz⟩
  · exact ⟨none, 0, 0, fun _ => ByteArray.empty, hcs, rd_nil, fun j => by unfold maxLen; show (0 : Nat) ≤ _; omega⟩
  · have hzl : l ≤ zs.length := by rw [hz]; split <;> omega
    refine ⟨some a, l, c, fun j => zs.getD j ByteArray.empty, hcs, rd_cells (by omega) fun j hj => hcell j (by omega), fun j => ?_⟩
    show (zs.getD j ByteArray.empty).size ≤ maxLen
    rw [List.getD_eq_getElem?_getD]
    cases hj : zs[j]? with
    | none => unfold maxLen; show (0 : Nat) ≤ _; omega
    | some u => exact hwz u (List.mem_of_getElem? hj)

theorem str_of {fuel : Nat} {v : Value} {x : DataW H × List MemPlace} (h : DataW.trod enc Try.prog w base spare held fuel 9 [v] = some x) : ∃ s : ByteArray, v = .string s := by
  obtain ⟨s, hs, _⟩ := DataW.trod_string Try.underlying9 h
  simp at hs; exact ⟨s, hs⟩

theorem pair_of {n : Nat} {f g : Nat → Value} {a : Addr} (h : ∀ i, i < n → w.cell? (a.add (i * 2)) = some (f i) ∧ w.cell? (a.add (i * 2 + 1)) = some (g i)) : ∀ j, j < n * 2 → w.cell? (a.add j) = some (pair f g j) := by
  intro j hj
  unfold pair
  rcases Nat.mod_two_eq_zero_or_one j with e | e
  · rw [if_pos e]; have := (h (j / 2) (by omega)).1; rw [show j / 2 * 2 = j by omega] at this; exact this
  · rw [if_neg (by omega)]; have := (h (j / 2) (by omega)).2; rw [show j / 2 * 2 + 1 = j by omega] at this; exact this

theorem rdE_of {fuel : Nat} {cs : List Value} {x : DataW H × List MemPlace} (h : DataW.trod enc Try.prog w base spare held fuel 25 cs = some x) : ∃ y n c f t, cs = [.slice y n c] ∧ RdE w 0 y n f t := by
  rcases Go.Deep.open_slice_pairs Try.underlying25 Try.underlying46 cells46 rfl rfl cells9 cells9 h with ⟨hcs, _⟩ | ⟨a, l, c, m, k, V0, V1, D0, D1, P0, P1, hcs, _, hl, hm, hz, _, hcell⟩
  · exact ⟨none, 0, 0, fun _ => ByteArray.empty, fun _ => ByteArray.empty, hcs, rd_nil⟩
  · have hlm : l ≤ m := by rw [hz]; split <;> omega
    obtain ⟨f, hf⟩ := Classical.axiomOfChoice (r := fun (i : Nat) (z : ByteArray × ByteArray) => i < l → V0 i = .string z.1 ∧ V1 i = .string z.2) (fun i => by
      by_cases hi : i < l
      · obtain ⟨_, _, h0, h1⟩ := hcell i (by omega)
        obtain ⟨s0, e0⟩ := str_of h0
        obtain ⟨s1, e1⟩ := str_of h1
        exact ⟨(s0, s1), fun _ => ⟨e0, e1⟩⟩
      · exact ⟨(ByteArray.empty, ByteArray.empty), fun h => absurd h hi⟩)
    refine ⟨some a, l, c, fun i => (f i).1, fun i => (f i).2, hcs, rd_cells (by omega) (pair_of fun i hi => ?_)⟩
    obtain ⟨c0, c1, _, _⟩ := hcell i (by omega)
    exact ⟨by rw [c0, (hf i hi).1], by rw [c1, (hf i hi).2]⟩

/-- A list of strings, as a choice. -/
structure Sv where
  id : ByteArray
  y : Option Addr
  n : Nat
  c : Nat
  s : Nat → ByteArray

theorem rdC_of {fuel : Nat} {cs : List Value} {x : DataW H × List MemPlace} (h : DataW.trod enc Try.prog w base spare held fuel 26 cs = some x) : ∃ y n c y' m k s, cs = [.slice y n c] ∧ RdC w 0 y n y' m k s := by
  rcases Go.Deep.open_slice1 Try.underlying26 cells24 h with ⟨hcs, _⟩ | ⟨a, l, c, m, k, V, D, P, hcs, _, hl, hm, hz, _, hcell⟩
  · exact ⟨none, 0, 0, fun _ => none, fun _ => 0, fun _ => 0, fun _ _ => ByteArray.empty, hcs, rd_nil, fun j hj => absurd hj (by omega)⟩
  · have hlm : l ≤ m := by rw [hz]; split <;> omega
    obtain ⟨f, hf⟩ := Classical.axiomOfChoice (r := fun (i : Nat) (z : Sv) => i < l → V i = .slice z.y z.n z.c ∧ RdS w 0 z.y z.n z.s) (fun i => by
      by_cases hi : i < l
      · obtain ⟨_, h0⟩ := hcell i (by omega)
        obtain ⟨y, n, c, s, e, hr, _⟩ := rdS_of h0
        simp at e
        exact ⟨⟨ByteArray.empty, y, n, c, s⟩, fun _ => ⟨e, hr⟩⟩
      · exact ⟨⟨ByteArray.empty, none, 0, 0, fun _ => ByteArray.empty⟩, fun h => absurd h hi⟩)
    refine ⟨some a, l, c, fun i => (f i).y, fun i => (f i).n, fun i => (f i).c, fun i => (f i).s, hcs, rd_cells (by omega) fun j hj => ?_, fun j hj => (hf j hj).2⟩
    rw [(hcell j (by omega)).1, (hf j (by omega)).1]

theorem rdN_of {fuel : Nat} {cs : List Value} {x : DataW H × List MemPlace} (h : DataW.trod enc Try.prog w base spare held fuel 22 cs = some x) : ∃ a : Nds, cs = [.slice a.x a.n a.c] ∧ a.Reads w 0 ∧ ∀ i j, (a.s i j).size ≤ maxLen := by
  rcases Go.Deep.open_slice_pairs Try.underlying22 Try.underlying42 cells42 rfl rfl cells9 cells24 h with ⟨hcs, _⟩ | ⟨a, l, c, m, k, V0, V1, D0, D1, P0, P1, hcs, _, hl, hm, hz, _, hcell⟩
  · exact ⟨⟨none, 0, 0, fun _ => ByteArray.empty, fun _ => none, fun _ => 0, fun _ => 0, fun _ _ => ByteArray.empty⟩, hcs, ⟨rd_nil, fun j hj => absurd hj (Nat.not_lt_zero j)⟩, fun i j => by unfold maxLen; show (0 : Nat) ≤ _; omega⟩
  · have hlm : l ≤ m := by rw [hz]; split <;> omega
    obtain ⟨f, hf⟩ := Classical.axiomOfChoice (r := fun (i : Nat) (z : Sv) => (∀ j, (z.s j).size ≤ maxLen) ∧ (i < l → V0 i = .string z.id ∧ V1 i = .slice z.y z.n z.c ∧ RdS w 0 z.y z.n z.s)) (fun i => by
      by_cases hi : i < l
      · obtain ⟨_, _, h0, h1⟩ := hcell i (by omega)
        obtain ⟨s0, e0⟩ := str_of h0
        obtain ⟨y, n, c, s, e, hr, hsz⟩ := rdS_of h1
        simp at e
        exact ⟨⟨s0, y, n, c, s⟩, hsz, fun _ => ⟨e0, e, hr⟩⟩
      · exact ⟨⟨ByteArray.empty, none, 0, 0, fun _ => ByteArray.empty⟩, fun j => by unfold maxLen; show (0 : Nat) ≤ _; omega, fun h => absurd h hi⟩)
    refine ⟨⟨some a, l, c, fun i => (f i).id, fun i => (f i).y, fun i => (f i).n, fun i => (f i).c, fun i => (f i).s⟩, hcs, ⟨rd_cells (by omega) (pair_of fun i hi => ?_), fun j hj => ((hf j).2 hj).2.2⟩, fun i j => (hf i).1 j⟩
    have hi' : i < l := hi
    obtain ⟨c0, c1, _, _⟩ := hcell i (by omega)
    exact ⟨by rw [c0, ((hf i).2 hi).1], by rw [c1, ((hf i).2 hi).2.1]⟩

theorem zero3 (w : World) : (zeroValue 3).run Try.prog w = .ok (.int .i64 0) w := by kernel_rfl
theorem key9 (s : ByteArray) (hs : s.size ≤ maxLen) : keyOf Try.prog 9 (.string s) = some (.string s.data.toList) := by
  unfold keyOf
  rw [Try.underlying9]
  simp [mapKey, Try.underlying9, hs]
def numOf : DataW H → Int
  | .lit (.int _ n) => n
  | _ => 0

theorem idx_of {fuel : Nat} {cs : List Value} {x : DataW H × List MemPlace} (h : DataW.trod enc Try.prog w base spare held fuel 23 cs = some x) :
    ∃ mv ok val z, cs = [mv] ∧ Idx w mv ok val ∧ ∀ w', Below w.heap.size w w' → ∀ ty, (Builtin.len_ #[23] ty #[mv]).run Try.prog w' = .ok (.int .i64 z) w' := by
  have K : Go.Maps.Keyed Try.prog 9 := Go.Maps.string_keyed Try.underlying9
  rcases Go.WideElems.open_map Try.underlying23 h with ⟨hcs, _⟩ | ⟨b, es, clock, n, _, hcs, hb, _, F, _⟩
  · refine ⟨.map none, fun _ => false, fun _ => 0, 0, hcs, fun w' _ s hs => ?_, fun w' _ ty => Maps.len_nil Try.underlying23 ty⟩
    have := Maps.look_nil (w := w') true K Try.underlying23 (zero3 w') (key9 s hs)
    simpa using this
  · have O := World.ownsMap_of_fit (R := plainElem Try.prog 3) hb F (fun x _ z hz => elemAt_plainElem_int Try.underlying3 hz)
    obtain ⟨D, hD⟩ : ∃ D : DataW H, DataW.map ((es.toList.map (Go.WideElems.rg Try.prog 9 (Go.WideElems.elemAt enc Try.prog w base spare held n 3))).foldr DataW.insert []) = D := ⟨_, rfl⟩
    rw [hD] at O
    have OB : ∀ w', Below w.heap.size w w' → w'.ownsMap Try.prog 9 (plainElem Try.prog 3) b es.size D := fun w' hb' => O.kept (row := none) ⟨hb'.os, hb'.tape, hb'.output, hb'.size, fun k hk _ => hb'.block k hk⟩ (by simp)
    refine ⟨.map (some b), fun s => Maps.has D (.string s.data.toList), fun s => numOf (D.atKey (.string s.data.toList) (.lit (.int .i64 0))), _, hcs, fun w' hb' s hs => ?_, fun w' hb' ty => (OB w' hb').len Try.underlying23 ty⟩
    obtain ⟨v, ps, hrun, hv⟩ := (OB w' hb').look_ok K Try.underlying23 (zero3 w') (plainElem_int Try.underlying3 (by decide)) (key9 s hs)
    obtain ⟨m, rfl, hm, _⟩ := plainElem_int_inv Try.underlying3 hv
    simp only [Prod.mk.injEq] at hm
    rw [hrun]
    show _ = Result.ok (Value.tuple #[.int .i64 (numOf (D.atKey (.string s.data.toList) (.lit (.int .i64 0)))), .bool (Maps.has D (.string s.data.toList))]) w'
    rw [hm.1]; rfl

theorem prob_of {v0 v1 v2 v3 : Value} {n : Nat} {x0 x1 x2 x3 : DataW H × List MemPlace} (h0 : DataW.trod enc Try.prog w base spare held n 24 [v0] = some x0) (h1 : DataW.trod enc Try.prog w base spare held n 25 [v1] = some x1) (h2 : DataW.trod enc Try.prog w base spare held n 24 [v2] = some x2) (h3 : DataW.trod enc Try.prog w base spare held n 26 [v3] = some x3) :
    ∃ p : Prob, v0 = .slice p.xD p.nD p.cD ∧ v1 = .slice p.xM p.nM p.cM ∧ v2 = .slice p.xS p.nS p.cS ∧ v3 = .slice p.xC p.nC p.cC ∧ p.Reads w 0 := by
  obtain ⟨xD, nD, cD, sD, e0, r0, _⟩ := rdS_of h0
  obtain ⟨xM, nM, cM, fM, tM, e1, r1⟩ := rdE_of h1
  obtain ⟨xS, nS, cS, sS, e2, r2, _⟩ := rdS_of h2
  obtain ⟨xC, nC, cC, yC, mC, kC, sC, e3, r3⟩ := rdC_of h3
  simp at e0 e1 e2 e3
  exact ⟨⟨xD, nD, cD, sD, xM, nM, cM, fM, tM, xS, nS, cS, sS, xC, nC, cC, yC, mC, kC, sC⟩, e0, e1, e2, e3, r0, r1, r2, r3⟩
end Go.Proofs.Qxb6603999a.Open

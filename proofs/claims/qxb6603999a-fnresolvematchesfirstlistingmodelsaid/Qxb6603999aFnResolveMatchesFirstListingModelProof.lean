import Derived.Test.Qxb6603999aRows
import Derived.WalkKit
import Derived.ProofKit
import Derived.OpenShut
import Derived.ShutString
import Derived.ChangeOld
import Derived.Below
import Derived.Test.Qxb6603999aLaw
import Derived.Test.Qxb6603999aOpen
namespace Go.Proofs.Qxb6603999a.fnResolveMatchesFirstListingModel
open Go.ChangeShapes Go.WideShapes Go.ChangeAt Go.RowKit
open Go.ChangeMaps (open_string shut_string)
open Go.Proofs.Qxb6603999a
set_option linter.unusedVariables false

theorem own : ownKnob Try.prog.godebug = none := by kernel_rfl
theorem laidOut : laidOutB Try.prog = true := by kernel_rfl

/-! ### THE ROW's STEP: WRITTEN OUT: LEAVE IT -/
set_option maxRecDepth 100000 in
theorem lifted (os : Os) (started : os.Started) (H : Type) (enc : TypeId × Value → H) :
    ReturnsInHanded {} Try.checked os 3 .any (Rows.fnResolveMatchesFirstListingModelSpec.pre6 enc Try.prog Try.f3 Rows.fnResolveMatchesFirstListingModelRow.domain false) (Rows.fnResolveMatchesFirstListingModelSpec.post enc Try.prog Try.f3 false true false false) := by
  refine returnsInHanded_of_change (C := Try.checked) own started (by kernel_rfl) Try.func3
    (ChangeSpec.witness6 (enc := enc) (C := Try.checked) false ⟨#[], #[.slice none 0 0, .map none, .agg #[.slice none 0 0, .slice none 0 0, .slice none 0 0, .slice none 0 0]], []⟩ 8 (by kernel_rfl) (by kernel_rfl) (by kernel_rfl) (by kernel_rfl)) ?_
  intro W base args ds gs before hval0 hW hcnd _
  have hval : ∀ (j : Nat) t v, Try.f3.params[j]? = some t → args[j]? = some v → Value.okWide Try.prog W .any base t v := hval0
  have hW' := hW
  obtain ⟨p, q, hA0, hV, rfl, hfz, hnd⟩ := hW
  have hA : DataW.TrodAll enc Try.prog W 0 (fun _ => true) true Try.f3.params.toList args.toList ds p := hA0
  rw [Try.params3] at hA hval
  obtain ⟨v0, vs0, d0, ds0, p0, q0, hargs, rfl, rfl, h0, r0⟩ := trodAll_cons hA
  obtain ⟨v1, vs1, d1, ds1, p1, q1, hargs1, rfl, rfl, h1, r1⟩ := trodAll_cons r0
  obtain ⟨v2, vs2, d2, ds2, p2, q2, hargs2, rfl, rfl, h2, r2⟩ := trodAll_cons r1
  obtain ⟨rfl, rfl, rfl⟩ := trodAll_nil r2
  subst hargs1 hargs2
  obtain rfl : args = #[v0, v1, v2] := by cases args; simp_all
  obtain ⟨rfl, rfl⟩ := trodVars_none hV
  have k0 := h0
  have k1 := h1
  have k2 := h2
  have lt0 : ∀ x ∈ p0, x.block < W.heap.size := by obtain ⟨m, hm⟩ := k0; exact DataW.trod_lt m _ _ _ hm
  have lt1 : ∀ x ∈ p1, x.block < W.heap.size := by obtain ⟨m, hm⟩ := k1; exact DataW.trod_lt m _ _ _ hm
  have lt2 : ∀ x ∈ p2, x.block < W.heap.size := by obtain ⟨m, hm⟩ := k2; exact DataW.trod_lt m _ _ _ hm
  obtain ⟨a0, len0, cap0, rfl⟩ := okWide_slice Try.underlying22 (hval 0 22 v0 rfl rfl)
  obtain ⟨mm, rfl⟩ := okWide_map Try.underlying23 (hval 1 23 v1 rfl rfl)
  obtain ⟨a, ha, har, hasz⟩ : ∃ a : Fit.Nds, [Value.slice a0 len0 cap0] = [.slice a.x a.n a.c] ∧ a.Reads W 0 ∧ ∀ i j, (a.s i j).size ≤ maxLen := by
    obtain ⟨fuel, hf⟩ := h0
    exact Open.rdN_of hf
  obtain ⟨ok, val, z, hidx, hlen⟩ : ∃ ok val z, Target.Idx W (.map mm) ok val ∧ ∀ w', Below W.heap.size W w' → ∀ ty, (Builtin.len_ #[23] ty #[.map mm]).run Try.prog w' = .ok (.int .i64 z) w' := by
    obtain ⟨fuel, hf⟩ := h1
    obtain ⟨mv, ok, val, z, e, h3, h4⟩ := Open.idx_of hf
    simp [Value.cells] at e
    subst e
    exact ⟨ok, val, z, h3, h4⟩
  obtain ⟨c0, c1, c2, c3, y0, y1, y2, y3, n2, rfl, _, _, g0, g1, g2, g3⟩ := Go.Joins.open_agg4 Try.underlying28 (by kernel_rfl) (by kernel_rfl) (hval 2 28 v2 rfl rfl) h2
  obtain ⟨p, rfl, rfl, rfl, rfl, hpr⟩ := Open.prob_of g0 g1 g2 g3
  simp only [List.cons.injEq, Value.slice.injEq, and_true] at ha
  obtain ⟨rfl, rfl, rfl⟩ := ha
  clear hA0 hval0
  refine (Law.f3_any a p (.map mm) ok val z W har hpr hidx hasz hlen).mono fun e W' ⟨he, bel⟩ => ?_
  subst he
  exact ⟨_, rfl, _, _, _, [], _, [], hW', trodAll_mk1 (shut_bool Try.underlying4 _), (trodAll_cons_mk (Below.trod laidOut (by kernel_rfl) (of_decide_eq_true (by kernel_rfl)) k0 bel lt0) (trodAll_cons_mk (Below.trod laidOut (by kernel_rfl) (of_decide_eq_true (by kernel_rfl)) k1 bel lt1) (trodAll_cons_mk (Below.trod laidOut (by kernel_rfl) (of_decide_eq_true (by kernel_rfl)) k2 bel lt2) trodAll_mk0))), rfl, bel.frame _, fun h => by cases h⟩

theorem over : Rows.fnResolveMatchesFirstListingModelRow.holds Try.pinned (OpenSpec.ofChange Rows.fnResolveMatchesFirstListingModelSpec) :=
  OpenClaim.holds_of_wide 3 Try.f3 rfl rfl rfl rfl rfl rfl rfl ⟨rfl, rfl, rfl, rfl, rfl⟩ rfl rfl rfl rfl rfl (by kernel_rfl) Try.func3 (by kernel_rfl)
    (of_decide_eq_true (by kernel_rfl)) (by unfold Func.isWrapper; first | (rw [if_pos (by decide +kernel)]; kernel_rfl) | (rw [if_neg (by decide +kernel)]; exact ⟨rfl, rfl⟩))
    (fun os started H enc _ => lifted os started H enc)

/-- ████ THE STATEMENT ████ -/
theorem proved : Rows.FnResolveMatchesFirstListingModelSaid := over
#print axioms proved
end Go.Proofs.Qxb6603999a.fnResolveMatchesFirstListingModel

/-
  NARROWER THAN 'FOR EVERY INPUT', by the rows' own cells (each row's printed sentence says how): FnResolveMatchesFirstListingModel: maps.
  DERIVED. THE GIVEN ROWS OF THIS SEAT. 1 by the template 'for every input the law returns true; each argument reads behind the call as it read before'; 0 by the template 'total and deterministic' (their statements: Qxb6603999aTotals.lean).
  GIVEN WITH THE SEED: the statements are not yours to turn. If you find one false, say at which input.
  Laid BY PROGRAM, IN A SANDBOX (cutbox-rows.mjs): the forced cells as the released guide's own fill.sh prints them over the translation 7c6ab178d3a639d6… (all of the seat's roots in one cut). By AI agents, Wed Nov 11 2026. No macro, syntax, notation, axiom, sorry.
-/
import Derived.Test.Qxb6603999aChecked
import GoSem.Claim
import GoSem.ClaimJoined
import GoSem.ClaimMapViews
import Derived.JoinedTies
import Derived.KernelRfl
namespace Go.Proofs.Qxb6603999a
/- THE CELL 'sum', in the pinned program and in every row, IS THE sha256 OF THE DUMP (.gsa) THAT Qxb6603999aProg.lean LOADS. Nothing in Lean hashes anything: it is a label: what it is worth is what the hold of that sum in a sandbox is worth. -/
noncomputable def Try.pinned : Pinned := { name := "qxb6603999a", sum := "7c6ab178d3a639d655bf9801a4c8291349e89936658b3703ab9175b28e46301b", checked := Try.checked }
namespace Rows
def none {H : Type} : Left H := { results := [], args := [] }

/-- 'zzlaws_pkg_dag_b1.FnResolveMatchesFirstListingModel': WHATEVER THE INPUT: true; the input reads as it did. -/
def fnResolveMatchesFirstListingModelSpec : ChangeSpec := { name := "fnResolveMatchesFirstListingModel", fn := fun _ => fun
  | [d1, d2, d3] => { results := [.lit (.bool true)], args := [d1, d2, d3] }
  | _ => none }
def fnResolveMatchesFirstListingModelRow : OpenClaim := { program := "qxb6603999a", sum := "7c6ab178d3a639d655bf9801a4c8291349e89936658b3703ab9175b28e46301b", func := "example.com/topod/topod/zzlaws_pkg_dag_b1.FnResolveMatchesFirstListingModel", spec := "fnResolveMatchesFirstListingModel", maps := true, plainKeys := false, apart := false }
def FnResolveMatchesFirstListingModelSaid : Prop := fnResolveMatchesFirstListingModelRow.holds Try.pinned (OpenSpec.ofChange fnResolveMatchesFirstListingModelSpec)

/-- ITS FALSE NEIGHBOUR: 'it returns false'. Refute it at one input. -/
def fnResolveMatchesFirstListingModelWrong : ChangeSpec := { name := "fnResolveMatchesFirstListingModel", fn := fun _ => fun
  | [d1, d2, d3] => { results := [.lit (.bool false)], args := [d1, d2, d3] }
  | _ => none }
def FnResolveMatchesFirstListingModelWrongFalsely : Prop := fnResolveMatchesFirstListingModelRow.holds Try.pinned (OpenSpec.ofChange fnResolveMatchesFirstListingModelWrong)

end Rows
end Go.Proofs.Qxb6603999a

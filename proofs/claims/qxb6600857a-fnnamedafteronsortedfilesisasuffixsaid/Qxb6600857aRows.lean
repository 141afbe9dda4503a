/-
  No cell of these rows narrows 'for every input' (looked for: loops, veiled, ifaces, maps, wideKeys, modest, calm, conditions, laid).
  DERIVED. THE GIVEN ROWS OF THIS SEAT. 5 by the template 'for every input the law returns true; each argument reads behind the call as it read before'; 0 by the template 'total and deterministic' (their statements: Qxb6600857aTotals.lean).
  GIVEN WITH THE SEED: the statements are not yours to turn. If you find one false, say at which input.
  Laid BY PROGRAM, IN A SANDBOX (cutbox-rows.mjs): the forced cells as the released guide's own fill.sh prints them over the translation 7f6ef113f9ae639a… (all of the seat's roots in one cut). By AI agents, Wed Nov 11 2026. No macro, syntax, notation, axiom, sorry.
-/
import Derived.Test.Qxb6600857aChecked
import GoSem.Claim
import GoSem.ClaimJoined
import GoSem.ClaimMapViews
import Derived.JoinedTies
import Derived.KernelRfl
namespace Go.Proofs.Qxb6600857a
/- THE CELL 'sum', in the pinned program and in every row, IS THE sha256 OF THE DUMP (.gsa) THAT Qxb6600857aProg.lean LOADS. Nothing in Lean hashes anything: it is a label: what it is worth is what the hold of that sum in a sandbox is worth. -/
noncomputable def Try.pinned : Pinned := { name := "qxb6600857a", sum := "7f6ef113f9ae639a716d74cdbe92d387aa3ce63d00bd9d929ba7c515b60bb3b2", checked := Try.checked }
namespace Rows
def none {H : Type} : Left H := { results := [], args := [] }

/-- 'zzlaws_store_b1.FnZeroedFromMatchesSectorModel': WHATEVER THE INPUT: true; the input reads as it did. -/
def fnZeroedFromMatchesSectorModelSpec : ChangeSpec := { name := "fnZeroedFromMatchesSectorModel", fn := fun _ => fun
  | [d1, d2, d3] => { results := [.lit (.bool true)], args := [d1, d2, d3] }
  | _ => none }
def fnZeroedFromMatchesSectorModelRow : OpenClaim := { program := "qxb6600857a", sum := "7f6ef113f9ae639a716d74cdbe92d387aa3ce63d00bd9d929ba7c515b60bb3b2", func := "example.com/rookery/rookery/zzlaws_store_b1.FnZeroedFromMatchesSectorModel", spec := "fnZeroedFromMatchesSectorModel", apart := false }
def FnZeroedFromMatchesSectorModelSaid : Prop := fnZeroedFromMatchesSectorModelRow.holds Try.pinned (OpenSpec.ofChange fnZeroedFromMatchesSectorModelSpec)

/-- ITS FALSE NEIGHBOUR: 'it returns false'. Refute it at one input. -/
def fnZeroedFromMatchesSectorModelWrong : ChangeSpec := { name := "fnZeroedFromMatchesSectorModel", fn := fun _ => fun
  | [d1, d2, d3] => { results := [.lit (.bool false)], args := [d1, d2, d3] }
  | _ => none }
def FnZeroedFromMatchesSectorModelWrongFalsely : Prop := fnZeroedFromMatchesSectorModelRow.holds Try.pinned (OpenSpec.ofChange fnZeroedFromMatchesSectorModelWrong)

/-- 'zzlaws_store_b1.FnZeroedFromIgnoresMoreTrailingZeros': WHATEVER THE INPUT: true; the input reads as it did. -/
def fnZeroedFromIgnoresMoreTrailingZerosSpec : ChangeSpec := { name := "fnZeroedFromIgnoresMoreTrailingZeros", fn := fun _ => fun
  | [d1, d2, d3, d4] => { results := [.lit (.bool true)], args := [d1, d2, d3, d4] }
  | _ => none }
def fnZeroedFromIgnoresMoreTrailingZerosRow : OpenClaim := { program := "qxb6600857a", sum := "7f6ef113f9ae639a716d74cdbe92d387aa3ce63d00bd9d929ba7c515b60bb3b2", func := "example.com/rookery/rookery/zzlaws_store_b1.FnZeroedFromIgnoresMoreTrailingZeros", spec := "fnZeroedFromIgnoresMoreTrailingZeros", apart := false }
def FnZeroedFromIgnoresMoreTrailingZerosSaid : Prop := fnZeroedFromIgnoresMoreTrailingZerosRow.holds Try.pinned (OpenSpec.ofChange fnZeroedFromIgnoresMoreTrailingZerosSpec)

/-- ITS FALSE NEIGHBOUR: 'it returns false'. Refute it at one input. -/
def fnZeroedFromIgnoresMoreTrailingZerosWrong : ChangeSpec := { name := "fnZeroedFromIgnoresMoreTrailingZeros", fn := fun _ => fun
  | [d1, d2, d3, d4] => { results := [.lit (.bool false)], args := [d1, d2, d3, d4] }
  | _ => none }
def FnZeroedFromIgnoresMoreTrailingZerosWrongFalsely : Prop := fnZeroedFromIgnoresMoreTrailingZerosRow.holds Try.pinned (OpenSpec.ofChange fnZeroedFromIgnoresMoreTrailingZerosWrong)

/-- 'zzlaws_store_b1.FnZeroedFromSectorShiftInvariant': WHATEVER THE INPUT: true; the input reads as it did. -/
def fnZeroedFromSectorShiftInvariantSpec : ChangeSpec := { name := "fnZeroedFromSectorShiftInvariant", fn := fun _ => fun
  | [d1, d2, d3, d4] => { results := [.lit (.bool true)], args := [d1, d2, d3, d4] }
  | _ => none }
def fnZeroedFromSectorShiftInvariantRow : OpenClaim := { program := "qxb6600857a", sum := "7f6ef113f9ae639a716d74cdbe92d387aa3ce63d00bd9d929ba7c515b60bb3b2", func := "example.com/rookery/rookery/zzlaws_store_b1.FnZeroedFromSectorShiftInvariant", spec := "fnZeroedFromSectorShiftInvariant", apart := false }
def FnZeroedFromSectorShiftInvariantSaid : Prop := fnZeroedFromSectorShiftInvariantRow.holds Try.pinned (OpenSpec.ofChange fnZeroedFromSectorShiftInvariantSpec)

/-- ITS FALSE NEIGHBOUR: 'it returns false'. Refute it at one input. -/
def fnZeroedFromSectorShiftInvariantWrong : ChangeSpec := { name := "fnZeroedFromSectorShiftInvariant", fn := fun _ => fun
  | [d1, d2, d3, d4] => { results := [.lit (.bool false)], args := [d1, d2, d3, d4] }
  | _ => none }
def FnZeroedFromSectorShiftInvariantWrongFalsely : Prop := fnZeroedFromSectorShiftInvariantRow.holds Try.pinned (OpenSpec.ofChange fnZeroedFromSectorShiftInvariantWrong)

/-- 'zzlaws_store_b1.FnNamedAfterOnSortedFilesIsASuffix': WHATEVER THE INPUT: true; the input reads as it did. -/
def fnNamedAfterOnSortedFilesIsASuffixSpec : ChangeSpec := { name := "fnNamedAfterOnSortedFilesIsASuffix", fn := fun _ => fun
  | [d1, d2, d3] => { results := [.lit (.bool true)], args := [d1, d2, d3] }
  | _ => none }
def fnNamedAfterOnSortedFilesIsASuffixRow : OpenClaim := { program := "qxb6600857a", sum := "7f6ef113f9ae639a716d74cdbe92d387aa3ce63d00bd9d929ba7c515b60bb3b2", func := "example.com/rookery/rookery/zzlaws_store_b1.FnNamedAfterOnSortedFilesIsASuffix", spec := "fnNamedAfterOnSortedFilesIsASuffix", apart := false }
def FnNamedAfterOnSortedFilesIsASuffixSaid : Prop := fnNamedAfterOnSortedFilesIsASuffixRow.holds Try.pinned (OpenSpec.ofChange fnNamedAfterOnSortedFilesIsASuffixSpec)

/-- ITS FALSE NEIGHBOUR: 'it returns false'. Refute it at one input. -/
def fnNamedAfterOnSortedFilesIsASuffixWrong : ChangeSpec := { name := "fnNamedAfterOnSortedFilesIsASuffix", fn := fun _ => fun
  | [d1, d2, d3] => { results := [.lit (.bool false)], args := [d1, d2, d3] }
  | _ => none }
def FnNamedAfterOnSortedFilesIsASuffixWrongFalsely : Prop := fnNamedAfterOnSortedFilesIsASuffixRow.holds Try.pinned (OpenSpec.ofChange fnNamedAfterOnSortedFilesIsASuffixWrong)

/-- 'zzlaws_store_b1.FnNamedAfterShrinksAsLastGrows': WHATEVER THE INPUT: true; the input reads as it did. -/
def fnNamedAfterShrinksAsLastGrowsSpec : ChangeSpec := { name := "fnNamedAfterShrinksAsLastGrows", fn := fun _ => fun
  | [d1, d2, d3, d4] => { results := [.lit (.bool true)], args := [d1, d2, d3, d4] }
  | _ => none }
def fnNamedAfterShrinksAsLastGrowsRow : OpenClaim := { program := "qxb6600857a", sum := "7f6ef113f9ae639a716d74cdbe92d387aa3ce63d00bd9d929ba7c515b60bb3b2", func := "example.com/rookery/rookery/zzlaws_store_b1.FnNamedAfterShrinksAsLastGrows", spec := "fnNamedAfterShrinksAsLastGrows", apart := false }
def FnNamedAfterShrinksAsLastGrowsSaid : Prop := fnNamedAfterShrinksAsLastGrowsRow.holds Try.pinned (OpenSpec.ofChange fnNamedAfterShrinksAsLastGrowsSpec)

/-- ITS FALSE NEIGHBOUR: 'it returns false'. Refute it at one input. -/
def fnNamedAfterShrinksAsLastGrowsWrong : ChangeSpec := { name := "fnNamedAfterShrinksAsLastGrows", fn := fun _ => fun
  | [d1, d2, d3, d4] => { results := [.lit (.bool false)], args := [d1, d2, d3, d4] }
  | _ => none }
def FnNamedAfterShrinksAsLastGrowsWrongFalsely : Prop := fnNamedAfterShrinksAsLastGrowsRow.holds Try.pinned (OpenSpec.ofChange fnNamedAfterShrinksAsLastGrowsWrong)

end Rows
end Go.Proofs.Qxb6600857a

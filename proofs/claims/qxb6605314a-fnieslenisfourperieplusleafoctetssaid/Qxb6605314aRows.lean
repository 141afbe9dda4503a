/-
  NARROWER THAN 'FOR EVERY INPUT', by the rows' own cells (each row's printed sentence says how): FnIesLenIsFourPerIEPlusLeafOctets: loops.
  DERIVED. THE GIVEN ROWS OF THIS SEAT. 5 by the template 'for every input the law returns true; each argument reads behind the call as it read before'; 0 by the template 'total and deterministic' (their statements: Qxb6605314aTotals.lean).
  GIVEN WITH THE SEED: the statements are not yours to turn. If you find one false, say at which input.
  Laid BY PROGRAM, IN A SANDBOX (cutbox-rows.mjs): the forced cells as the released guide's own fill.sh prints them over the translation 4c2c7b2742bd8416… (all of the seat's roots in one cut). By AI agents, Wed Nov 11 2026. No macro, syntax, notation, axiom, sorry.
-/
import Derived.Test.Qxb6605314aChecked
import GoSem.Claim
import GoSem.ClaimJoined
import GoSem.ClaimMapViews
import Derived.JoinedTies
import Derived.KernelRfl
namespace Go.Proofs.Qxb6605314a
/- THE CELL 'sum', in the pinned program and in every row, IS THE sha256 OF THE DUMP (.gsa) THAT Qxb6605314aProg.lean LOADS. Nothing in Lean hashes anything: it is a label: what it is worth is what the hold of that sum in a sandbox is worth. -/
noncomputable def Try.pinned : Pinned := { name := "qxb6605314a", sum := "4c2c7b2742bd841617590bcf12158998711f606de87c2aa844a044d76f450263", checked := Try.checked }
namespace Rows
def none {H : Type} : Left H := { results := [], args := [] }

/-- 'zzlaws_gtpv2_b1.FnIesLenIsFourPerIEPlusLeafOctets': WHATEVER THE INPUT: true; the input reads as it did. -/
def fnIesLenIsFourPerIEPlusLeafOctetsSpec : ChangeSpec := { name := "fnIesLenIsFourPerIEPlusLeafOctets", fn := fun _ => fun
  | [d] => { results := [.lit (.bool true)], args := [d] }
  | _ => none }
def fnIesLenIsFourPerIEPlusLeafOctetsRow : OpenClaim := { program := "qxb6605314a", sum := "4c2c7b2742bd841617590bcf12158998711f606de87c2aa844a044d76f450263", func := "example.com/tunnelwright/tunnelwright/zzlaws_gtpv2_b1.FnIesLenIsFourPerIEPlusLeafOctets", spec := "fnIesLenIsFourPerIEPlusLeafOctets", recurses := true, loops := true, apart := false }
def FnIesLenIsFourPerIEPlusLeafOctetsSaid : Prop := fnIesLenIsFourPerIEPlusLeafOctetsRow.holds Try.pinned (OpenSpec.ofChange fnIesLenIsFourPerIEPlusLeafOctetsSpec)

/-- ITS FALSE NEIGHBOUR: 'it returns false'. Refute it at one input. -/
def fnIesLenIsFourPerIEPlusLeafOctetsWrong : ChangeSpec := { name := "fnIesLenIsFourPerIEPlusLeafOctets", fn := fun _ => fun
  | [d] => { results := [.lit (.bool false)], args := [d] }
  | _ => none }
def FnIesLenIsFourPerIEPlusLeafOctetsWrongFalsely : Prop := fnIesLenIsFourPerIEPlusLeafOctetsRow.holds Try.pinned (OpenSpec.ofChange fnIesLenIsFourPerIEPlusLeafOctetsWrong)

/-- 'zzlaws_gtpv2_b1.FnIsDigitsExactlyWhenEveryByteIsADigit': WHATEVER THE INPUT: true; the input reads as it did. -/
def fnIsDigitsExactlyWhenEveryByteIsADigitSpec : ChangeSpec := { name := "fnIsDigitsExactlyWhenEveryByteIsADigit", fn := fun _ => fun
  | [d] => { results := [.lit (.bool true)], args := [d] }
  | _ => none }
def fnIsDigitsExactlyWhenEveryByteIsADigitRow : OpenClaim := { program := "qxb6605314a", sum := "4c2c7b2742bd841617590bcf12158998711f606de87c2aa844a044d76f450263", func := "example.com/tunnelwright/tunnelwright/zzlaws_gtpv2_b1.FnIsDigitsExactlyWhenEveryByteIsADigit", spec := "fnIsDigitsExactlyWhenEveryByteIsADigit", apart := false }
def FnIsDigitsExactlyWhenEveryByteIsADigitSaid : Prop := fnIsDigitsExactlyWhenEveryByteIsADigitRow.holds Try.pinned (OpenSpec.ofChange fnIsDigitsExactlyWhenEveryByteIsADigitSpec)

/-- ITS FALSE NEIGHBOUR: 'it returns false'. Refute it at one input. -/
def fnIsDigitsExactlyWhenEveryByteIsADigitWrong : ChangeSpec := { name := "fnIsDigitsExactlyWhenEveryByteIsADigit", fn := fun _ => fun
  | [d] => { results := [.lit (.bool false)], args := [d] }
  | _ => none }
def FnIsDigitsExactlyWhenEveryByteIsADigitWrongFalsely : Prop := fnIsDigitsExactlyWhenEveryByteIsADigitRow.holds Try.pinned (OpenSpec.ofChange fnIsDigitsExactlyWhenEveryByteIsADigitWrong)

/-- 'zzlaws_gtpv2_b1.FnIsDigitsOfConcatenation': WHATEVER THE INPUT: true; the input reads as it did. -/
def fnIsDigitsOfConcatenationSpec : ChangeSpec := { name := "fnIsDigitsOfConcatenation", fn := fun _ => fun
  | [d1, d2] => { results := [.lit (.bool true)], args := [d1, d2] }
  | _ => none }
def fnIsDigitsOfConcatenationRow : OpenClaim := { program := "qxb6605314a", sum := "4c2c7b2742bd841617590bcf12158998711f606de87c2aa844a044d76f450263", func := "example.com/tunnelwright/tunnelwright/zzlaws_gtpv2_b1.FnIsDigitsOfConcatenation", spec := "fnIsDigitsOfConcatenation", apart := false }
def FnIsDigitsOfConcatenationSaid : Prop := fnIsDigitsOfConcatenationRow.holds Try.pinned (OpenSpec.ofChange fnIsDigitsOfConcatenationSpec)

/-- ITS FALSE NEIGHBOUR: 'it returns false'. Refute it at one input. -/
def fnIsDigitsOfConcatenationWrong : ChangeSpec := { name := "fnIsDigitsOfConcatenation", fn := fun _ => fun
  | [d1, d2] => { results := [.lit (.bool false)], args := [d1, d2] }
  | _ => none }
def FnIsDigitsOfConcatenationWrongFalsely : Prop := fnIsDigitsOfConcatenationRow.holds Try.pinned (OpenSpec.ofChange fnIsDigitsOfConcatenationWrong)

/-- 'zzlaws_gtpv2_b1.FnPaaCarriesByBitsOfTheType': WHATEVER THE INPUT: true; the input reads as it did. -/
def fnPaaCarriesByBitsOfTheTypeSpec : ChangeSpec := { name := "fnPaaCarriesByBitsOfTheType", fn := fun _ => fun
  | [d] => { results := [.lit (.bool true)], args := [d] }
  | _ => none }
def fnPaaCarriesByBitsOfTheTypeRow : OpenClaim := { program := "qxb6605314a", sum := "4c2c7b2742bd841617590bcf12158998711f606de87c2aa844a044d76f450263", func := "example.com/tunnelwright/tunnelwright/zzlaws_gtpv2_b1.FnPaaCarriesByBitsOfTheType", spec := "fnPaaCarriesByBitsOfTheType", apart := false }
def FnPaaCarriesByBitsOfTheTypeSaid : Prop := fnPaaCarriesByBitsOfTheTypeRow.holds Try.pinned (OpenSpec.ofChange fnPaaCarriesByBitsOfTheTypeSpec)

/-- ITS FALSE NEIGHBOUR: 'it returns false'. Refute it at one input. -/
def fnPaaCarriesByBitsOfTheTypeWrong : ChangeSpec := { name := "fnPaaCarriesByBitsOfTheType", fn := fun _ => fun
  | [d] => { results := [.lit (.bool false)], args := [d] }
  | _ => none }
def FnPaaCarriesByBitsOfTheTypeWrongFalsely : Prop := fnPaaCarriesByBitsOfTheTypeRow.holds Try.pinned (OpenSpec.ofChange fnPaaCarriesByBitsOfTheTypeWrong)

/-- 'zzlaws_gtpv2_b1.FnPaaCarriesRoundTripsTheType': WHATEVER THE INPUT: true; the input reads as it did. -/
def fnPaaCarriesRoundTripsTheTypeSpec : ChangeSpec := { name := "fnPaaCarriesRoundTripsTheType", fn := fun _ => fun
  | [d] => { results := [.lit (.bool true)], args := [d] }
  | _ => none }
def fnPaaCarriesRoundTripsTheTypeRow : OpenClaim := { program := "qxb6605314a", sum := "4c2c7b2742bd841617590bcf12158998711f606de87c2aa844a044d76f450263", func := "example.com/tunnelwright/tunnelwright/zzlaws_gtpv2_b1.FnPaaCarriesRoundTripsTheType", spec := "fnPaaCarriesRoundTripsTheType", apart := false }
def FnPaaCarriesRoundTripsTheTypeSaid : Prop := fnPaaCarriesRoundTripsTheTypeRow.holds Try.pinned (OpenSpec.ofChange fnPaaCarriesRoundTripsTheTypeSpec)

/-- ITS FALSE NEIGHBOUR: 'it returns false'. Refute it at one input. -/
def fnPaaCarriesRoundTripsTheTypeWrong : ChangeSpec := { name := "fnPaaCarriesRoundTripsTheType", fn := fun _ => fun
  | [d] => { results := [.lit (.bool false)], args := [d] }
  | _ => none }
def FnPaaCarriesRoundTripsTheTypeWrongFalsely : Prop := fnPaaCarriesRoundTripsTheTypeRow.holds Try.pinned (OpenSpec.ofChange fnPaaCarriesRoundTripsTheTypeWrong)

end Rows
end Go.Proofs.Qxb6605314a

/-
  No cell of these rows narrows 'for every input' (looked for: loops, veiled, ifaces, maps, wideKeys, modest, calm, conditions, laid).
  DERIVED. THE GIVEN ROWS OF THIS SEAT. 7 by the template 'for every input the law returns true; each argument reads behind the call as it read before'; 0 by the template 'total and deterministic' (their statements: Qxb6003414aTotals.lean).
  GIVEN WITH THE SEED: the statements are not yours to turn. If you find one false, say at which input.
  Laid BY PROGRAM, IN A SANDBOX (cutbox-rows.mjs): the forced cells as the released guide's own fill.sh prints them over the translation 4a9e453318749259… (all of the seat's roots in one cut). By AI agents, Wed Nov 11 2026. No macro, syntax, notation, axiom, sorry.
-/
import Derived.Test.Qxb6003414aChecked
import GoSem.Claim
import GoSem.ClaimJoined
import GoSem.ClaimMapViews
import Derived.JoinedTies
import Derived.KernelRfl
namespace Go.Proofs.Qxb6003414a
/- THE CELL 'sum', in the pinned program and in every row, IS THE sha256 OF THE DUMP (.gsa) THAT Qxb6003414aProg.lean LOADS. Nothing in Lean hashes anything: it is a label: what it is worth is what the hold of that sum in a sandbox is worth. -/
noncomputable def Try.pinned : Pinned := { name := "qxb6003414a", sum := "4a9e453318749259f0a3a9baecaab73eb921c99a31a8c805d2ed05e19a2098fe", checked := Try.checked }
namespace Rows
def none {H : Type} : Left H := { results := [], args := [] }

/-- 'zzlaws_decimal_g1.FnAddSubInverse': WHATEVER THE INPUT: true; the input reads as it did. -/
def fnAddSubInverseSpec : ChangeSpec := { name := "fnAddSubInverse", fn := fun _ => fun
  | [d1, d2] => { results := [.lit (.bool true)], args := [d1, d2] }
  | _ => none }
def fnAddSubInverseRow : OpenClaim := { program := "qxb6003414a", sum := "4a9e453318749259f0a3a9baecaab73eb921c99a31a8c805d2ed05e19a2098fe", func := "example.com/resolvent/resolvent/zzlaws_decimal_g1.FnAddSubInverse", spec := "fnAddSubInverse", inPlace := ["math/bits.Add64", "math/bits.Sub64"], apart := false }
def FnAddSubInverseSaid : Prop := fnAddSubInverseRow.holds Try.pinned (OpenSpec.ofChange fnAddSubInverseSpec)

/-- ITS FALSE NEIGHBOUR: 'it returns false'. Refute it at one input. -/
def fnAddSubInverseWrong : ChangeSpec := { name := "fnAddSubInverse", fn := fun _ => fun
  | [d1, d2] => { results := [.lit (.bool false)], args := [d1, d2] }
  | _ => none }
def FnAddSubInverseWrongFalsely : Prop := fnAddSubInverseRow.holds Try.pinned (OpenSpec.ofChange fnAddSubInverseWrong)

/-- 'zzlaws_decimal_g1.FnMulWordsCommutes': WHATEVER THE INPUT: true; the input reads as it did. -/
def fnMulWordsCommutesSpec : ChangeSpec := { name := "fnMulWordsCommutes", fn := fun _ => fun
  | [d1, d2] => { results := [.lit (.bool true)], args := [d1, d2] }
  | _ => none }
def fnMulWordsCommutesRow : OpenClaim := { program := "qxb6003414a", sum := "4a9e453318749259f0a3a9baecaab73eb921c99a31a8c805d2ed05e19a2098fe", func := "example.com/resolvent/resolvent/zzlaws_decimal_g1.FnMulWordsCommutes", spec := "fnMulWordsCommutes", inPlace := ["math/bits.Add64"], apart := false }
def FnMulWordsCommutesSaid : Prop := fnMulWordsCommutesRow.holds Try.pinned (OpenSpec.ofChange fnMulWordsCommutesSpec)

/-- ITS FALSE NEIGHBOUR: 'it returns false'. Refute it at one input. -/
def fnMulWordsCommutesWrong : ChangeSpec := { name := "fnMulWordsCommutes", fn := fun _ => fun
  | [d1, d2] => { results := [.lit (.bool false)], args := [d1, d2] }
  | _ => none }
def FnMulWordsCommutesWrongFalsely : Prop := fnMulWordsCommutesRow.holds Try.pinned (OpenSpec.ofChange fnMulWordsCommutesWrong)

/-- 'zzlaws_decimal_g1.FnMulSubWordsUndoneByAdd': WHATEVER THE INPUT: true; the input reads as it did. -/
def fnMulSubWordsUndoneByAddSpec : ChangeSpec := { name := "fnMulSubWordsUndoneByAdd", fn := fun _ => fun
  | [d1, d2, d3] => { results := [.lit (.bool true)], args := [d1, d2, d3] }
  | _ => none }
def fnMulSubWordsUndoneByAddRow : OpenClaim := { program := "qxb6003414a", sum := "4a9e453318749259f0a3a9baecaab73eb921c99a31a8c805d2ed05e19a2098fe", func := "example.com/resolvent/resolvent/zzlaws_decimal_g1.FnMulSubWordsUndoneByAdd", spec := "fnMulSubWordsUndoneByAdd", inPlace := ["math/bits.Add64", "math/bits.Sub64"], apart := false }
def FnMulSubWordsUndoneByAddSaid : Prop := fnMulSubWordsUndoneByAddRow.holds Try.pinned (OpenSpec.ofChange fnMulSubWordsUndoneByAddSpec)

/-- ITS FALSE NEIGHBOUR: 'it returns false'. Refute it at one input. -/
def fnMulSubWordsUndoneByAddWrong : ChangeSpec := { name := "fnMulSubWordsUndoneByAdd", fn := fun _ => fun
  | [d1, d2, d3] => { results := [.lit (.bool false)], args := [d1, d2, d3] }
  | _ => none }
def FnMulSubWordsUndoneByAddWrongFalsely : Prop := fnMulSubWordsUndoneByAddRow.holds Try.pinned (OpenSpec.ofChange fnMulSubWordsUndoneByAddWrong)

/-- 'zzlaws_decimal_g1.FnShlWordsMultiplies': WHATEVER THE INPUT: true; the input reads as it did. -/
def fnShlWordsMultipliesSpec : ChangeSpec := { name := "fnShlWordsMultiplies", fn := fun _ => fun
  | [d1, d2] => { results := [.lit (.bool true)], args := [d1, d2] }
  | _ => none }
def fnShlWordsMultipliesRow : OpenClaim := { program := "qxb6003414a", sum := "4a9e453318749259f0a3a9baecaab73eb921c99a31a8c805d2ed05e19a2098fe", func := "example.com/resolvent/resolvent/zzlaws_decimal_g1.FnShlWordsMultiplies", spec := "fnShlWordsMultiplies", inPlace := ["math/bits.Add64"], apart := false }
def FnShlWordsMultipliesSaid : Prop := fnShlWordsMultipliesRow.holds Try.pinned (OpenSpec.ofChange fnShlWordsMultipliesSpec)

/-- ITS FALSE NEIGHBOUR: 'it returns false'. Refute it at one input. -/
def fnShlWordsMultipliesWrong : ChangeSpec := { name := "fnShlWordsMultiplies", fn := fun _ => fun
  | [d1, d2] => { results := [.lit (.bool false)], args := [d1, d2] }
  | _ => none }
def FnShlWordsMultipliesWrongFalsely : Prop := fnShlWordsMultipliesRow.holds Try.pinned (OpenSpec.ofChange fnShlWordsMultipliesWrong)

/-- 'zzlaws_decimal_g1.FnReciprocalQuoDivides': WHATEVER THE INPUT: true; the input reads as it did. -/
def fnReciprocalQuoDividesSpec : ChangeSpec := { name := "fnReciprocalQuoDivides", fn := fun _ => fun
  | [d1, d2, d3] => { results := [.lit (.bool true)], args := [d1, d2, d3] }
  | _ => none }
def fnReciprocalQuoDividesRow : OpenClaim := { program := "qxb6003414a", sum := "4a9e453318749259f0a3a9baecaab73eb921c99a31a8c805d2ed05e19a2098fe", func := "example.com/resolvent/resolvent/zzlaws_decimal_g1.FnReciprocalQuoDivides", spec := "fnReciprocalQuoDivides", inPlace := ["math/bits.Add64"], named := ["math/bits.overflowError", "math/bits.divideError"], apart := false }
def FnReciprocalQuoDividesSaid : Prop := fnReciprocalQuoDividesRow.holds Try.pinned (OpenSpec.ofChange fnReciprocalQuoDividesSpec)

/-- ITS FALSE NEIGHBOUR: 'it returns false'. Refute it at one input. -/
def fnReciprocalQuoDividesWrong : ChangeSpec := { name := "fnReciprocalQuoDivides", fn := fun _ => fun
  | [d1, d2, d3] => { results := [.lit (.bool false)], args := [d1, d2, d3] }
  | _ => none }
def FnReciprocalQuoDividesWrongFalsely : Prop := fnReciprocalQuoDividesRow.holds Try.pinned (OpenSpec.ofChange fnReciprocalQuoDividesWrong)

/-- 'zzlaws_decimal_g1.FnQuoWordDivides': WHATEVER THE INPUT: true; the input reads as it did. -/
def fnQuoWordDividesSpec : ChangeSpec := { name := "fnQuoWordDivides", fn := fun _ => fun
  | [d1, d2] => { results := [.lit (.bool true)], args := [d1, d2] }
  | _ => none }
def fnQuoWordDividesRow : OpenClaim := { program := "qxb6003414a", sum := "4a9e453318749259f0a3a9baecaab73eb921c99a31a8c805d2ed05e19a2098fe", func := "example.com/resolvent/resolvent/zzlaws_decimal_g1.FnQuoWordDivides", spec := "fnQuoWordDivides", inPlace := ["math/bits.Add64"], named := ["math/bits.overflowError", "math/bits.divideError"], apart := false }
def FnQuoWordDividesSaid : Prop := fnQuoWordDividesRow.holds Try.pinned (OpenSpec.ofChange fnQuoWordDividesSpec)

/-- ITS FALSE NEIGHBOUR: 'it returns false'. Refute it at one input. -/
def fnQuoWordDividesWrong : ChangeSpec := { name := "fnQuoWordDivides", fn := fun _ => fun
  | [d1, d2] => { results := [.lit (.bool false)], args := [d1, d2] }
  | _ => none }
def FnQuoWordDividesWrongFalsely : Prop := fnQuoWordDividesRow.holds Try.pinned (OpenSpec.ofChange fnQuoWordDividesWrong)

/-- 'zzlaws_decimal_g1.FnQuoLongDivides': WHATEVER THE INPUT: true; the input reads as it did. -/
def fnQuoLongDividesSpec : ChangeSpec := { name := "fnQuoLongDivides", fn := fun _ => fun
  | [d1, d2] => { results := [.lit (.bool true)], args := [d1, d2] }
  | _ => none }
def fnQuoLongDividesRow : OpenClaim := { program := "qxb6003414a", sum := "4a9e453318749259f0a3a9baecaab73eb921c99a31a8c805d2ed05e19a2098fe", func := "example.com/resolvent/resolvent/zzlaws_decimal_g1.FnQuoLongDivides", spec := "fnQuoLongDivides", inPlace := ["math/bits.Add64", "math/bits.Sub64"], named := ["math/bits.overflowError", "math/bits.divideError"], apart := false }
def FnQuoLongDividesSaid : Prop := fnQuoLongDividesRow.holds Try.pinned (OpenSpec.ofChange fnQuoLongDividesSpec)

/-- ITS FALSE NEIGHBOUR: 'it returns false'. Refute it at one input. -/
def fnQuoLongDividesWrong : ChangeSpec := { name := "fnQuoLongDivides", fn := fun _ => fun
  | [d1, d2] => { results := [.lit (.bool false)], args := [d1, d2] }
  | _ => none }
def FnQuoLongDividesWrongFalsely : Prop := fnQuoLongDividesRow.holds Try.pinned (OpenSpec.ofChange fnQuoLongDividesWrong)

end Rows
end Go.Proofs.Qxb6003414a

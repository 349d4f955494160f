/-
  No cell of these rows narrows 'for every input' (looked for: loops, veiled, ifaces, maps, wideKeys, modest, calm, conditions, laid).
  DERIVED. THE GIVEN ROWS OF THIS SEAT. 2 by the template 'for every input the law returns true; each argument reads behind the call as it read before'; 0 by the template 'total and deterministic' (their statements: Qxb6003400aTotals.lean).
  GIVEN WITH THE SEED: the statements are not yours to turn. If you find one false, say at which input.
  Laid BY PROGRAM, IN A SANDBOX (cutbox-rows.mjs): the forced cells as the released guide's own fill.sh prints them over the translation 4bf62b15708d2228… (all of the seat's roots in one cut). By AI agents, Wed Nov 11 2026. No macro, syntax, notation, axiom, sorry.
-/
import Derived.Test.Qxb6003400aChecked
import GoSem.Claim
import GoSem.ClaimJoined
import GoSem.ClaimMapViews
import Derived.JoinedTies
import Derived.KernelRfl
namespace Go.Proofs.Qxb6003400a
/- THE CELL 'sum', in the pinned program and in every row, IS THE sha256 OF THE DUMP (.gsa) THAT Qxb6003400aProg.lean LOADS. Nothing in Lean hashes anything: it is a label: what it is worth is what the hold of that sum in a sandbox is worth. -/
noncomputable def Try.pinned : Pinned := { name := "qxb6003400a", sum := "4bf62b15708d2228f68f4f4d81ac98343ef29ab3c1405c898b8a8786d12bbbdf", checked := Try.checked }
namespace Rows
def none {H : Type} : Left H := { results := [], args := [] }

/-- 'zzlaws_root_g1.FnCheckRangeWideningKeepsAcceptance': WHATEVER THE INPUT: true; the input reads as it did. -/
def fnCheckRangeWideningKeepsAcceptanceSpec : ChangeSpec := { name := "fnCheckRangeWideningKeepsAcceptance", fn := fun _ => fun
  | [d1, d2, d3, d4, d5, d6] => { results := [.lit (.bool true)], args := [d1, d2, d3, d4, d5, d6] }
  | _ => none }
def fnCheckRangeWideningKeepsAcceptanceRow : OpenClaim := { program := "qxb6003400a", sum := "4bf62b15708d2228f68f4f4d81ac98343ef29ab3c1405c898b8a8786d12bbbdf", func := "example.com/shardwire/shardwire/zzlaws_root_g1.FnCheckRangeWideningKeepsAcceptance", spec := "fnCheckRangeWideningKeepsAcceptance", apart := false }
def FnCheckRangeWideningKeepsAcceptanceSaid : Prop := fnCheckRangeWideningKeepsAcceptanceRow.holds Try.pinned (OpenSpec.ofChange fnCheckRangeWideningKeepsAcceptanceSpec)

/-- ITS FALSE NEIGHBOUR: 'it returns false'. Refute it at one input. -/
def fnCheckRangeWideningKeepsAcceptanceWrong : ChangeSpec := { name := "fnCheckRangeWideningKeepsAcceptance", fn := fun _ => fun
  | [d1, d2, d3, d4, d5, d6] => { results := [.lit (.bool false)], args := [d1, d2, d3, d4, d5, d6] }
  | _ => none }
def FnCheckRangeWideningKeepsAcceptanceWrongFalsely : Prop := fnCheckRangeWideningKeepsAcceptanceRow.holds Try.pinned (OpenSpec.ofChange fnCheckRangeWideningKeepsAcceptanceWrong)

/-- 'zzlaws_root_g1.FnCheckRangeAcceptsAnIntervalFromLo': WHATEVER THE INPUT: true; the input reads as it did. -/
def fnCheckRangeAcceptsAnIntervalFromLoSpec : ChangeSpec := { name := "fnCheckRangeAcceptsAnIntervalFromLo", fn := fun _ => fun
  | [d1, d2, d3, d4, d5, d6] => { results := [.lit (.bool true)], args := [d1, d2, d3, d4, d5, d6] }
  | _ => none }
def fnCheckRangeAcceptsAnIntervalFromLoRow : OpenClaim := { program := "qxb6003400a", sum := "4bf62b15708d2228f68f4f4d81ac98343ef29ab3c1405c898b8a8786d12bbbdf", func := "example.com/shardwire/shardwire/zzlaws_root_g1.FnCheckRangeAcceptsAnIntervalFromLo", spec := "fnCheckRangeAcceptsAnIntervalFromLo", apart := false }
def FnCheckRangeAcceptsAnIntervalFromLoSaid : Prop := fnCheckRangeAcceptsAnIntervalFromLoRow.holds Try.pinned (OpenSpec.ofChange fnCheckRangeAcceptsAnIntervalFromLoSpec)

/-- ITS FALSE NEIGHBOUR: 'it returns false'. Refute it at one input. -/
def fnCheckRangeAcceptsAnIntervalFromLoWrong : ChangeSpec := { name := "fnCheckRangeAcceptsAnIntervalFromLo", fn := fun _ => fun
  | [d1, d2, d3, d4, d5, d6] => { results := [.lit (.bool false)], args := [d1, d2, d3, d4, d5, d6] }
  | _ => none }
def FnCheckRangeAcceptsAnIntervalFromLoWrongFalsely : Prop := fnCheckRangeAcceptsAnIntervalFromLoRow.holds Try.pinned (OpenSpec.ofChange fnCheckRangeAcceptsAnIntervalFromLoWrong)

end Rows
end Go.Proofs.Qxb6003400a

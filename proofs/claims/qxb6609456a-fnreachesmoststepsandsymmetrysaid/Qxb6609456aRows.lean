/-
  No cell of these rows narrows 'for every input' (looked for: loops, veiled, ifaces, maps, wideKeys, modest, calm, conditions, laid).
  DERIVED. THE GIVEN ROWS OF THIS SEAT. 3 by the template 'for every input the law returns true; each argument reads behind the call as it read before'; 0 by the template 'total and deterministic' (their statements: Qxb6609456aTotals.lean).
  GIVEN WITH THE SEED: the statements are not yours to turn. If you find one false, say at which input.
  Laid BY PROGRAM, IN A SANDBOX (cutbox-rows.mjs): the forced cells as the released guide's own fill.sh prints them over the translation 989831cf2545e931… (all of the seat's roots in one cut). By AI agents, Wed Nov 11 2026. No macro, syntax, notation, axiom, sorry.
-/
import Derived.Test.Qxb6609456aChecked
import GoSem.Claim
import GoSem.ClaimJoined
import GoSem.ClaimMapViews
import Derived.JoinedTies
import Derived.KernelRfl
namespace Go.Proofs.Qxb6609456a
/- THE CELL 'sum', in the pinned program and in every row, IS THE sha256 OF THE DUMP (.gsa) THAT Qxb6609456aProg.lean LOADS. Nothing in Lean hashes anything: it is a label: what it is worth is what the hold of that sum in a sandbox is worth. -/
noncomputable def Try.pinned : Pinned := { name := "qxb6609456a", sum := "989831cf2545e931bd2e7e3e65bb9fef86d26846c4c9903d78a4cf1ef3ee1595", checked := Try.checked }
namespace Rows
def none {H : Type} : Left H := { results := [], args := [] }

/-- 'zzlaws_internal_parserstack_b1.FnReachesMostStepsAndSymmetry': WHATEVER THE INPUT: true; the input reads as it did. -/
def fnReachesMostStepsAndSymmetrySpec : ChangeSpec := { name := "fnReachesMostStepsAndSymmetry", fn := fun _ => fun
  | [d1, d2, d3] => { results := [.lit (.bool true)], args := [d1, d2, d3] }
  | _ => none }
def fnReachesMostStepsAndSymmetryRow : OpenClaim := { program := "qxb6609456a", sum := "989831cf2545e931bd2e7e3e65bb9fef86d26846c4c9903d78a4cf1ef3ee1595", func := "example.com/slotwright/slotwright/zzlaws_internal_parserstack_b1.FnReachesMostStepsAndSymmetry", spec := "fnReachesMostStepsAndSymmetry", apart := false }
def FnReachesMostStepsAndSymmetrySaid : Prop := fnReachesMostStepsAndSymmetryRow.holds Try.pinned (OpenSpec.ofChange fnReachesMostStepsAndSymmetrySpec)

/-- ITS FALSE NEIGHBOUR: 'it returns false'. Refute it at one input. -/
def fnReachesMostStepsAndSymmetryWrong : ChangeSpec := { name := "fnReachesMostStepsAndSymmetry", fn := fun _ => fun
  | [d1, d2, d3] => { results := [.lit (.bool false)], args := [d1, d2, d3] }
  | _ => none }
def FnReachesMostStepsAndSymmetryWrongFalsely : Prop := fnReachesMostStepsAndSymmetryRow.holds Try.pinned (OpenSpec.ofChange fnReachesMostStepsAndSymmetryWrong)

/-- 'zzlaws_internal_parserstack_b1.FnLongestChainMatchesLongestPath': WHATEVER THE INPUT: true; the input reads as it did. -/
def fnLongestChainMatchesLongestPathSpec : ChangeSpec := { name := "fnLongestChainMatchesLongestPath", fn := fun _ => fun
  | [d1, d2] => { results := [.lit (.bool true)], args := [d1, d2] }
  | _ => none }
def fnLongestChainMatchesLongestPathRow : OpenClaim := { program := "qxb6609456a", sum := "989831cf2545e931bd2e7e3e65bb9fef86d26846c4c9903d78a4cf1ef3ee1595", func := "example.com/slotwright/slotwright/zzlaws_internal_parserstack_b1.FnLongestChainMatchesLongestPath", spec := "fnLongestChainMatchesLongestPath", unfollowed := true, recurses := true, apart := false }
def FnLongestChainMatchesLongestPathSaid : Prop := fnLongestChainMatchesLongestPathRow.holds Try.pinned (OpenSpec.ofChange fnLongestChainMatchesLongestPathSpec)

/-- ITS FALSE NEIGHBOUR: 'it returns false'. Refute it at one input. -/
def fnLongestChainMatchesLongestPathWrong : ChangeSpec := { name := "fnLongestChainMatchesLongestPath", fn := fun _ => fun
  | [d1, d2] => { results := [.lit (.bool false)], args := [d1, d2] }
  | _ => none }
def FnLongestChainMatchesLongestPathWrongFalsely : Prop := fnLongestChainMatchesLongestPathRow.holds Try.pinned (OpenSpec.ofChange fnLongestChainMatchesLongestPathWrong)

/-- 'zzlaws_internal_parserstack_b1.FnLongestChainInvalidOnlyLengthens': WHATEVER THE INPUT: true; the input reads as it did. -/
def fnLongestChainInvalidOnlyLengthensSpec : ChangeSpec := { name := "fnLongestChainInvalidOnlyLengthens", fn := fun _ => fun
  | [d] => { results := [.lit (.bool true)], args := [d] }
  | _ => none }
def fnLongestChainInvalidOnlyLengthensRow : OpenClaim := { program := "qxb6609456a", sum := "989831cf2545e931bd2e7e3e65bb9fef86d26846c4c9903d78a4cf1ef3ee1595", func := "example.com/slotwright/slotwright/zzlaws_internal_parserstack_b1.FnLongestChainInvalidOnlyLengthens", spec := "fnLongestChainInvalidOnlyLengthens", unfollowed := true, recurses := true, apart := false }
def FnLongestChainInvalidOnlyLengthensSaid : Prop := fnLongestChainInvalidOnlyLengthensRow.holds Try.pinned (OpenSpec.ofChange fnLongestChainInvalidOnlyLengthensSpec)

/-- ITS FALSE NEIGHBOUR: 'it returns false'. Refute it at one input. -/
def fnLongestChainInvalidOnlyLengthensWrong : ChangeSpec := { name := "fnLongestChainInvalidOnlyLengthens", fn := fun _ => fun
  | [d] => { results := [.lit (.bool false)], args := [d] }
  | _ => none }
def FnLongestChainInvalidOnlyLengthensWrongFalsely : Prop := fnLongestChainInvalidOnlyLengthensRow.holds Try.pinned (OpenSpec.ofChange fnLongestChainInvalidOnlyLengthensWrong)

end Rows
end Go.Proofs.Qxb6609456a

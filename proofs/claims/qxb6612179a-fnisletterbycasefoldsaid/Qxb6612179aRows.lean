/-
  No cell of these rows narrows 'for every input' (looked for: loops, veiled, ifaces, maps, wideKeys, modest, calm, conditions, laid).
  DERIVED. THE GIVEN ROWS OF THIS SEAT. 3 by the template 'for every input the law returns true; each argument reads behind the call as it read before'; 0 by the template 'total and deterministic' (their statements: Qxb6612179aTotals.lean).
  GIVEN WITH THE SEED: the statements are not yours to turn. If you find one false, say at which input.
  Laid BY PROGRAM, IN A SANDBOX (cutbox-rows.mjs): the forced cells as the released guide's own fill.sh prints them over the translation 3675cc3622e393c4… (all of the seat's roots in one cut). By AI agents, Wed Nov 11 2026. No macro, syntax, notation, axiom, sorry.
-/
import Derived.Test.Qxb6612179aChecked
import GoSem.Claim
import GoSem.ClaimJoined
import GoSem.ClaimMapViews
import Derived.JoinedTies
import Derived.KernelRfl
namespace Go.Proofs.Qxb6612179a
/- THE CELL 'sum', in the pinned program and in every row, IS THE sha256 OF THE DUMP (.gsa) THAT Qxb6612179aProg.lean LOADS. Nothing in Lean hashes anything: it is a label: what it is worth is what the hold of that sum in a sandbox is worth. -/
noncomputable def Try.pinned : Pinned := { name := "qxb6612179a", sum := "3675cc3622e393c4062c689533cfba1e99442003a9d1e0e729a7cf7a495ee054", checked := Try.checked }
namespace Rows
def none {H : Type} : Left H := { results := [], args := [] }

/-- 'zzlaws_internal_markdown_b1.FnCloseTwiceIsCloseAtTheShallower': WHATEVER THE INPUT: true; the input reads as it did. -/
def fnCloseTwiceIsCloseAtTheShallowerSpec : ChangeSpec := { name := "fnCloseTwiceIsCloseAtTheShallower", fn := fun _ => fun
  | [d1, d2, d3] => { results := [.lit (.bool true)], args := [d1, d2, d3] }
  | _ => none }
def fnCloseTwiceIsCloseAtTheShallowerRow : OpenClaim := { program := "qxb6612179a", sum := "3675cc3622e393c4062c689533cfba1e99442003a9d1e0e729a7cf7a495ee054", func := "example.com/nabu/nabu/zzlaws_internal_markdown_b1.FnCloseTwiceIsCloseAtTheShallower", spec := "fnCloseTwiceIsCloseAtTheShallower", apart := false }
def FnCloseTwiceIsCloseAtTheShallowerSaid : Prop := fnCloseTwiceIsCloseAtTheShallowerRow.holds Try.pinned (OpenSpec.ofChange fnCloseTwiceIsCloseAtTheShallowerSpec)

/-- ITS FALSE NEIGHBOUR: 'it returns false'. Refute it at one input. -/
def fnCloseTwiceIsCloseAtTheShallowerWrong : ChangeSpec := { name := "fnCloseTwiceIsCloseAtTheShallower", fn := fun _ => fun
  | [d1, d2, d3] => { results := [.lit (.bool false)], args := [d1, d2, d3] }
  | _ => none }
def FnCloseTwiceIsCloseAtTheShallowerWrongFalsely : Prop := fnCloseTwiceIsCloseAtTheShallowerRow.holds Try.pinned (OpenSpec.ofChange fnCloseTwiceIsCloseAtTheShallowerWrong)

/-- 'zzlaws_internal_markdown_b1.FnIsLetterByCaseFold': WHATEVER THE INPUT: true; the input reads as it did. -/
def fnIsLetterByCaseFoldSpec : ChangeSpec := { name := "fnIsLetterByCaseFold", fn := fun _ => fun
  | [d] => { results := [.lit (.bool true)], args := [d] }
  | _ => none }
def fnIsLetterByCaseFoldRow : OpenClaim := { program := "qxb6612179a", sum := "3675cc3622e393c4062c689533cfba1e99442003a9d1e0e729a7cf7a495ee054", func := "example.com/nabu/nabu/zzlaws_internal_markdown_b1.FnIsLetterByCaseFold", spec := "fnIsLetterByCaseFold", apart := false }
def FnIsLetterByCaseFoldSaid : Prop := fnIsLetterByCaseFoldRow.holds Try.pinned (OpenSpec.ofChange fnIsLetterByCaseFoldSpec)

/-- ITS FALSE NEIGHBOUR: 'it returns false'. Refute it at one input. -/
def fnIsLetterByCaseFoldWrong : ChangeSpec := { name := "fnIsLetterByCaseFold", fn := fun _ => fun
  | [d] => { results := [.lit (.bool false)], args := [d] }
  | _ => none }
def FnIsLetterByCaseFoldWrongFalsely : Prop := fnIsLetterByCaseFoldRow.holds Try.pinned (OpenSpec.ofChange fnIsLetterByCaseFoldWrong)

/-- 'zzlaws_internal_markdown_b1.FnIsLetterIsTheAlphabetAndCaseFree': WHATEVER THE INPUT: true; the input reads as it did. -/
def fnIsLetterIsTheAlphabetAndCaseFreeSpec : ChangeSpec := { name := "fnIsLetterIsTheAlphabetAndCaseFree", fn := fun _ => fun
  | [d] => { results := [.lit (.bool true)], args := [d] }
  | _ => none }
def fnIsLetterIsTheAlphabetAndCaseFreeRow : OpenClaim := { program := "qxb6612179a", sum := "3675cc3622e393c4062c689533cfba1e99442003a9d1e0e729a7cf7a495ee054", func := "example.com/nabu/nabu/zzlaws_internal_markdown_b1.FnIsLetterIsTheAlphabetAndCaseFree", spec := "fnIsLetterIsTheAlphabetAndCaseFree", apart := false }
def FnIsLetterIsTheAlphabetAndCaseFreeSaid : Prop := fnIsLetterIsTheAlphabetAndCaseFreeRow.holds Try.pinned (OpenSpec.ofChange fnIsLetterIsTheAlphabetAndCaseFreeSpec)

/-- ITS FALSE NEIGHBOUR: 'it returns false'. Refute it at one input. -/
def fnIsLetterIsTheAlphabetAndCaseFreeWrong : ChangeSpec := { name := "fnIsLetterIsTheAlphabetAndCaseFree", fn := fun _ => fun
  | [d] => { results := [.lit (.bool false)], args := [d] }
  | _ => none }
def FnIsLetterIsTheAlphabetAndCaseFreeWrongFalsely : Prop := fnIsLetterIsTheAlphabetAndCaseFreeRow.holds Try.pinned (OpenSpec.ofChange fnIsLetterIsTheAlphabetAndCaseFreeWrong)

end Rows
end Go.Proofs.Qxb6612179a

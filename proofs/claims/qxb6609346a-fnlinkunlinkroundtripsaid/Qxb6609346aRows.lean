/-
  No cell of these rows narrows 'for every input' (looked for: loops, veiled, ifaces, maps, wideKeys, modest, calm, conditions, laid).
  DERIVED. THE GIVEN ROWS OF THIS SEAT. 3 by the template 'for every input the law returns true; each argument reads behind the call as it read before'; 0 by the template 'total and deterministic' (their statements: Qxb6609346aTotals.lean).
  GIVEN WITH THE SEED: the statements are not yours to turn. If you find one false, say at which input.
  Laid BY PROGRAM, IN A SANDBOX (cutbox-rows.mjs): the forced cells as the released guide's own fill.sh prints them over the translation df0824a5824869a4… (all of the seat's roots in one cut). By AI agents, Wed Nov 11 2026. No macro, syntax, notation, axiom, sorry.
-/
import Derived.Test.Qxb6609346aChecked
import GoSem.Claim
import GoSem.ClaimJoined
import GoSem.ClaimMapViews
import Derived.JoinedTies
import Derived.KernelRfl
namespace Go.Proofs.Qxb6609346a
/- THE CELL 'sum', in the pinned program and in every row, IS THE sha256 OF THE DUMP (.gsa) THAT Qxb6609346aProg.lean LOADS. Nothing in Lean hashes anything: it is a label: what it is worth is what the hold of that sum in a sandbox is worth. -/
noncomputable def Try.pinned : Pinned := { name := "qxb6609346a", sum := "df0824a5824869a44631b32b6588bccf8ed2685c947206433a618a71406e3dae", checked := Try.checked }
namespace Rows
def none {H : Type} : Left H := { results := [], args := [] }

/-- 'zzlaws_internal_queue_b1.FnInReachExact': WHATEVER THE INPUT: true; the input reads as it did. -/
def fnInReachExactSpec : ChangeSpec := { name := "fnInReachExact", fn := fun _ => fun
  | [d1, d2] => { results := [.lit (.bool true)], args := [d1, d2] }
  | _ => none }
def fnInReachExactRow : OpenClaim := { program := "qxb6609346a", sum := "df0824a5824869a44631b32b6588bccf8ed2685c947206433a618a71406e3dae", func := "example.com/steady-timers/steady-timers/zzlaws_internal_queue_b1.FnInReachExact", spec := "fnInReachExact", apart := false }
def FnInReachExactSaid : Prop := fnInReachExactRow.holds Try.pinned (OpenSpec.ofChange fnInReachExactSpec)

/-- ITS FALSE NEIGHBOUR: 'it returns false'. Refute it at one input. -/
def fnInReachExactWrong : ChangeSpec := { name := "fnInReachExact", fn := fun _ => fun
  | [d1, d2] => { results := [.lit (.bool false)], args := [d1, d2] }
  | _ => none }
def FnInReachExactWrongFalsely : Prop := fnInReachExactRow.holds Try.pinned (OpenSpec.ofChange fnInReachExactWrong)

/-- 'zzlaws_internal_queue_b1.FnInReachCount': WHATEVER THE INPUT: true; the input reads as it did. -/
def fnInReachCountSpec : ChangeSpec := { name := "fnInReachCount", fn := fun _ => fun
  | [d] => { results := [.lit (.bool true)], args := [d] }
  | _ => none }
def fnInReachCountRow : OpenClaim := { program := "qxb6609346a", sum := "df0824a5824869a44631b32b6588bccf8ed2685c947206433a618a71406e3dae", func := "example.com/steady-timers/steady-timers/zzlaws_internal_queue_b1.FnInReachCount", spec := "fnInReachCount", apart := false }
def FnInReachCountSaid : Prop := fnInReachCountRow.holds Try.pinned (OpenSpec.ofChange fnInReachCountSpec)

/-- ITS FALSE NEIGHBOUR: 'it returns false'. Refute it at one input. -/
def fnInReachCountWrong : ChangeSpec := { name := "fnInReachCount", fn := fun _ => fun
  | [d] => { results := [.lit (.bool false)], args := [d] }
  | _ => none }
def FnInReachCountWrongFalsely : Prop := fnInReachCountRow.holds Try.pinned (OpenSpec.ofChange fnInReachCountWrong)

/-- 'zzlaws_internal_queue_b1.FnLinkUnlinkRoundTrip': WHATEVER THE INPUT: true; the input reads as it did. -/
def fnLinkUnlinkRoundTripSpec : ChangeSpec := { name := "fnLinkUnlinkRoundTrip", fn := fun _ => fun
  | [d1, d2, d3, d4] => { results := [.lit (.bool true)], args := [d1, d2, d3, d4] }
  | _ => none }
def fnLinkUnlinkRoundTripRow : OpenClaim := { program := "qxb6609346a", sum := "df0824a5824869a44631b32b6588bccf8ed2685c947206433a618a71406e3dae", func := "example.com/steady-timers/steady-timers/zzlaws_internal_queue_b1.FnLinkUnlinkRoundTrip", spec := "fnLinkUnlinkRoundTrip", apart := false }
def FnLinkUnlinkRoundTripSaid : Prop := fnLinkUnlinkRoundTripRow.holds Try.pinned (OpenSpec.ofChange fnLinkUnlinkRoundTripSpec)

/-- ITS FALSE NEIGHBOUR: 'it returns false'. Refute it at one input. -/
def fnLinkUnlinkRoundTripWrong : ChangeSpec := { name := "fnLinkUnlinkRoundTrip", fn := fun _ => fun
  | [d1, d2, d3, d4] => { results := [.lit (.bool false)], args := [d1, d2, d3, d4] }
  | _ => none }
def FnLinkUnlinkRoundTripWrongFalsely : Prop := fnLinkUnlinkRoundTripRow.holds Try.pinned (OpenSpec.ofChange fnLinkUnlinkRoundTripWrong)

end Rows
end Go.Proofs.Qxb6609346a

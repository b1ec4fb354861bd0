/-
  DERIVED. GIVEN WITH THE SEED: THE CARDS: each row of Qxb6609346aDoorRows.lean that lists a variable, with what it lists TIED to the program's text (the seventh form; the later family's looks); each row that meets fmt, with fmt's text TOLD by the authors' own Lean function (tested against real Go, not proved from fmt's source: count such statements apart). THE CARD IS WHAT COUNTS. Prove the row's statement (the work); the ties are given (Qxb6609346aDoorTie.lean); close each card by the builder's one call (the guide's Derived/Test/ToyasCard.lean, 'card_holds'). Laid BY PROGRAM, IN A SANDBOX (cutbox-door.mjs). By AI agents, Wed Nov 11 2026. No macro, syntax, notation, axiom, sorry.
-/
import Derived.Test.Qxb6609346aDoorRows
import GoSem.ClaimSeven
namespace Go.Proofs.Qxb6609346aDoor
namespace Rows

/-- THE TIED CARD OF 'zzlaws_internal_queue_b1.FnLinkScript'. -/
def fnLinkScriptCard : Claim7 := { stood := { row := fnLinkScriptRow, standIns := [], harness := (true, "1f86cc899cf196437db53721b55894de40eddfa5b764b40af711686f74567cf4"), looks := false }, kinds := [], alts := [], laidByText := true, laidKinds := [.data], laidTests := true, laidLooks := .later }
def FnLinkScriptCardSaid : Prop := Claim7.holds Tryd.pinned (.plain (OpenSpec.ofChange fnLinkScriptSpec)) fnLinkScriptCard
end Rows
end Go.Proofs.Qxb6609346aDoor

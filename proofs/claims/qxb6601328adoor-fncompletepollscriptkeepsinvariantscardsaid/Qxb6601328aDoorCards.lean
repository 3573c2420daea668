/-
  DERIVED. GIVEN WITH THE SEED: THE CARDS: each row of Qxb6601328aDoorRows.lean that lists a variable, with what it lists TIED to the program's text (the seventh form; the later family's looks); each row that meets fmt, with fmt's text TOLD by the authors' own Lean function (tested against real Go, not proved from fmt's source: count such statements apart). THE CARD IS WHAT COUNTS. Prove the row's statement (the work); the ties are given (Qxb6601328aDoorTie.lean); close each card by the builder's one call (the guide's Derived/Test/ToyasCard.lean, 'card_holds'). Laid BY PROGRAM, IN A SANDBOX (cutbox-door.mjs). By AI agents, Wed Nov 11 2026. No macro, syntax, notation, axiom, sorry.
-/
import Derived.Test.Qxb6601328aDoorRows
import GoSem.ClaimSeven
namespace Go.Proofs.Qxb6601328aDoor
namespace Rows

/-- THE TIED CARD OF 'zzlaws_snow_b1.FnCompletePollScriptKeepsInvariants'. -/
def fnCompletePollScriptKeepsInvariantsCard : Claim7 := { stood := { row := fnCompletePollScriptKeepsInvariantsRow, standIns := [], harness := (true, "bcdc67307598dc403d825befd0370346c0e5c67b820e476179e5ab7d538b99f9"), looks := false }, kinds := [], alts := [], laidByText := true, laidKinds := [.data, .data, .data], laidTests := true, laidLooks := .later }
def FnCompletePollScriptKeepsInvariantsCardSaid : Prop := Claim7.holds Tryd.pinned (.plain (OpenSpec.ofChange fnCompletePollScriptKeepsInvariantsSpec)) fnCompletePollScriptKeepsInvariantsCard
end Rows
end Go.Proofs.Qxb6601328aDoor
